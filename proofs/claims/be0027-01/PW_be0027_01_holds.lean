import PyProof.Rows.All
import Wide.All
import OpenK.AllK
import Wide.FinOn
import Lean
import PySem.Challenge.RW_be0027_01
open PySem PySem.W PyProof.Rows
set_option Elab.async false
set_option maxRecDepth 100000
set_option maxHeartbeats 8000000
namespace Mine
def stays : Stmt → Bool
  | .Assign .. => false
  | _ => true
def view : Program := { PySem.Challenge.pw_be0027_01 with main := { PySem.Challenge.pw_be0027_01.main with body := PySem.Challenge.pw_be0027_01.main.body.filter stays } }
theorem wellSaid : OpenLaw.wellSaid PySem.Challenge.rw_be0027_01 = true := by rw [PySem.W.Fast.te9446332074065402090]; kernel_rfl
local macro_rules | `(tactic| o_law) => `(tactic| refine holds_law wellSaid fun said => ?_)
local macro_rules | `(tactic| o_head $H) => `(tactic| (refine holds_open (q := view) (loose := []) (Xt := fun s => xlAt view [] s && recOk (RowW.records PySem.Challenge.rw_be0027_01.row.toRowW) s) (XP := XL view []) (Yf := Hook.obs $H) (Ya := Hook.val $H) (YP := Hook.says $H) (N := 2144) ?hl (Hook.of $H) (Hook.keeps $H) (fun s e => xl_of s (Bool.and_eq_true_iff.mp e).1) XL.keeps (by rfl) (by rfl) (by rfl) (fun s e => recFacts_of (Bool.and_eq_true_iff.mp e).2) (by rfl) (by first | assumption | decide +kernel) (by decide +kernel) ⟨rfl, rfl, rfl, rfl, rfl, by decide +kernel⟩ ?hw ?hc; (case hl => (intro w; delta openEnds topFrom fencedOpening; rw [PySem.W.Fast.te14082659384304107361, PySem.W.Fast.te10274390034422433532, PySem.W.Fast.te14289696077712309145, PySem.W.Fast.te1435165496053646825, PySem.W.Fast.te4187177175401517315, PySem.W.Fast.te14364793385576792824]; kernel_rfl))))
open_top hd for PySem.Challenge.rw_be0027_01
end Mine
example : True := by w_top off; trivial
set_option compiler.extract_closed false
open PySem PySem.W PyProof.Rows PySem.Calls
namespace Mine
example : (fun (_ : OpenLaw) (_ : Params → Frag) => True) PySem.Challenge.rw_be0027_01 hd.heap_1 := by w_top off; k_fill; trivial
noncomputable section
abbrev prog := PySem.Challenge.pw_be0027_01
abbrev TopH (mean : ExcName → Option Value) (mg mb : Str → Option Value) (h : Heap) : Prop := Top view (looseW view []) mean mg mb h

theorem enter {w : World} {A : Around} {R : Result → Shared → Prop} {s : Shared} {f : Addr} {args : Args} {binds : List (Str × Value)} {K : Frag} {p : Program} {loose : List Str} {mean : ExcName → Option Value} {mg mb : Str → Option Value}
    {name qual : Str} {params : Arguments} {body : List Stmt} {scope : Scope} {dV kV doc pm cdv ct oc : Value} {an od : Option Addr} {osl : Array (Option Value)} {B : Heap} (W : List (Addr × Obj))
    (X : K.In B) (T : Top p loose mean mg mb B) (U : B.StaysIn s.heap) (hW : ∀ q ∈ W, s.heap.get? q.1 = some q.2 ∧ B.get? q.1 = none)
    (ho : K.lookup f = some ⟨oc, od, .func (fnOf name qual params body scope dV kV doc pm an cdv ct), osl⟩) (hcd : codeIn K cdv qual = true) (hroom : A.depth < recursionLimit)
    (hbind : BindsTo s (fnOf name qual params body scope dV kV doc pm an cdv ct) args binds) (hloc : ∀ y ∈ binds, scope.names.lookup y.1 = some .local)
    (h : ∀ g L' h₁, g = hideAll s.heap (W.map (·.1)) → B.StaysIn g → Fr g L' h₁ (fun y => binds.reverse.lookup y) → News g L' h₁ W → K.In g → Top p loose mean mg mb g → s.heap.StaysIn h₁ →
      wpAny (model prog w) (A.deeper (envOf qual scope L' f cdv)) (execs body (envOf qual scope L' f cdv))
        (fun fl s' => R (.ok (.ret (match fl with | .ret v => v | _ => .none))) s') (fun _ _ => False) { s with heap := h₁, toks := s.toks + binds.length })
    (hco : scope.isCoroutine = false := by exact rfl) (hgen : scope.isGenerator = false := by exact rfl) (hk : scope.kind = .function := by exact rfl)
    (hcell : ∀ x ∈ scope.names, x.2 ≠ .cell := by decide) : codeAny (model prog w) A (.call (.ref f) args) R s := by
  have XS := X.keeps U
  have hst : B.StaysIn (hideAll s.heap (W.map (·.1))) := fun b o e => hideAll_get _ (U b o e) fun hm => by
    obtain ⟨q, hq, e'⟩ := List.mem_map.mp hm
    have := (hW q hq).2
    rw [e', e] at this; cases this
  refine codeAny_call_def (fd := fnOf name qual params body scope dV kV doc pm an cdv ct) (body := body) (binds := binds) hroom (XS _ _ ho) rfl (T.nolimit.keeps U) (codeRec_of XS hcd) rfl hbind hcell hloc (fun h₁ hns hk₁ => ?_) hco hgen hk
  refine wpAny_mono (h _ s.heap.objs.size h₁ rfl hst ⟨hns, fun b o e => hk₁ b o (of_hideAll _ e), Nat.le_of_eq (hideAll_size _ _)⟩
    (fun q hq => ⟨hk₁ _ _ (hW q hq).1, Nat.ne_of_lt (Heap.lt_size (hW q hq).1), hideAll_none _ (List.mem_map_of_mem hq)⟩) (X.keeps hst) (T.keeps hst) hk₁) (fun _ _ q => q) fun _ _ q => q.elim

/-! ## heaps -/
/-- nothing but the objects at W is changed -/
def Kp (W : List Addr) (h h' : Heap) : Prop := ∀ b o, b ∉ W → h.get? b = some o → h'.get? b = some o
theorem Kp.refl {W : List Addr} {h : Heap} : Kp W h h := fun _ _ _ e => e
theorem Kp.trans {W : List Addr} {h h' h'' : Heap} (a : Kp W h h') (b : Kp W h' h'') : Kp W h h'' := fun x o n e => b x o n (a x o n e)
theorem Kp.stays {h h' : Heap} (k : Kp [] h h') : h.StaysIn h' := fun b o e => k b o (fun q => nomatch q) e
theorem Kp.of_stays {h h' : Heap} {W : List Addr} (k : h.StaysIn h') : Kp W h h' := fun b o _ e => k b o e
theorem Kp.hide {W : List Addr} {h h' : Heap} (k : Kp W h h') : (hideAll h W).StaysIn (hideAll h' W) := fun b o e => by
  have nb : b ∉ W := fun hm => by rw [hideAll_none _ hm] at e; cases e
  exact hideAll_get _ (k b o nb (of_hideAll _ e)) nb
theorem stays_refl (h : Heap) : h.StaysIn h := fun _ _ e => e
theorem stays_trans {a b c : Heap} (x : a.StaysIn b) (y : b.StaysIn c) : a.StaysIn c := fun q o e => y q o (x q o e)
theorem hide_up (h : Heap) (W : List Addr) : (hideAll h W).StaysIn h := fun _ _ e => of_hideAll _ e

/-- the objects of S that do not stand in g -/
def frz (g S : Heap) : List (Addr × Obj) := (List.range S.objs.size).filterMap fun a => match g.get? a, S.get? a with
  | none, some o => some (a, o)
  | _, _ => none
theorem mem_frz {g S : Heap} {p : Addr × Obj} : p ∈ frz g S ↔ g.get? p.1 = none ∧ S.get? p.1 = some p.2 := by
  unfold frz
  rw [List.mem_filterMap]
  constructor
  · rintro ⟨a, _, e⟩
    split at e
    · rename_i o h1 h2
      cases e
      exact ⟨h1, h2⟩
    · cases e
  · rintro ⟨h1, h2⟩
    refine ⟨p.1, List.mem_range.mpr (Heap.lt_size h2), ?_⟩
    rw [h1, h2]
theorem frz_off {g S : Heap} {d : Addr} (h : S.get? d = none) : ∀ p ∈ frz g S, p.1 ≠ d := fun p hp e => by
  have := (mem_frz.mp hp).2
  rw [e, h] at this; cases this
theorem frz_none {g S : Heap} {d : Addr} (hg : g.get? d = none) (l : AllLt d (frz g S)) : S.get? d = none := by
  cases e : S.get? d with
  | none => rfl
  | some o =>
    have hm : (d, o) ∈ frz g S := mem_frz.mpr ⟨hg, e⟩
    have : ∀ {l : List (Addr × Obj)}, AllLt d l → ∀ p ∈ l, p.1 < d := by
      intro l
      induction l with
      | nil => intro _ p hp; cases hp
      | cons q r ih =>
        intro h p hp
        rcases List.mem_cons.mp hp with rfl | hp
        · exact h.1
        · exact ih h.2 p hp
    exact absurd (this l _ hm) (Nat.lt_irrefl _)
theorem AllLt.append {d : Nat} : ∀ {a b : List (Addr × Obj)}, AllLt d (a ++ b) ↔ AllLt d a ∧ AllLt d b
  | [], b => by simp [AllLt]
  | p :: r, b => by simp only [List.cons_append, AllLt, AllLt.append (a := r), and_assoc]

/-- S stands in h, where the frame keeps g and the ledger bears the rest of S -/
theorem up_of {g h S : Heap} {L : Addr} {m : Str → Option Value} {news : List (Addr × Obj)} (F : Fr g L h m) (N : News g L h news) (ht : ∀ p ∈ frz g S, p ∈ news) (u : g.StaysIn S) : S.StaysIn h := fun b o e => by
  cases q : g.get? b with
  | none => exact (N _ (ht (b, o) (mem_frz.mpr ⟨q, e⟩))).1
  | some o' =>
    have := u b o' q
    rw [e] at this
    cases this
    exact F.keep b o q

/-- a ledger over fresh addresses may be thawed, frozen anew -/
theorem refreeze {g h S : Heap} {L : Addr} {m : Str → Option Value} {news : List (Addr × Obj)} (cs : List (Addr × Obj)) (F : Fr g L h m) (N : News g L h news) (hc : ∀ p ∈ cs, p ∈ news) (ht : ∀ p ∈ frz g S, p ∈ news) (u : g.StaysIn S)
    (offL : S.get? L = none) (off : ∀ p ∈ cs, S.get? p.1 = none) :
    ∃ S', News g L h (cs ++ frz g S') ∧ g.StaysIn S' ∧ S.StaysIn S' ∧ S'.get? L = none ∧ (∀ p ∈ cs, S'.get? p.1 = none) ∧ (∀ b o, h.get? b = some o → b ≠ L → (∀ p ∈ cs, p.1 ≠ b) → S'.get? b = some o) ∧ S'.StaysIn h := by
  have gL : g.get? L = none := by
    cases q : g.get? L with
    | none => rfl
    | some o => rw [u _ _ q] at offL; cases offL
  have hS : ∀ b o, h.get? b = some o → b ≠ L → (∀ p ∈ cs, p.1 ≠ b) → (hideAll h (L :: cs.map (·.1))).get? b = some o := fun b o e n1 n2 => hideAll_get _ e fun hm => by
    rcases List.mem_cons.mp hm with q | hm
    · exact n1 q
    · obtain ⟨p, hp, q⟩ := List.mem_map.mp hm
      exact n2 p hp q
  refine ⟨hideAll h (L :: cs.map (·.1)), ?_, ?_, ?_, hideAll_none _ (.head _), fun p hp => hideAll_none _ (.tail _ (List.mem_map_of_mem hp)), hS, hide_up _ _⟩
  · intro p hp
    rcases List.mem_append.mp hp with hp | hp
    · exact N p (hc p hp)
    · obtain ⟨h1, h2⟩ := mem_frz.mp hp
      refine ⟨of_hideAll _ h2, fun q => ?_, h1⟩
      rw [q, hideAll_none _ (.head _)] at h2
      cases h2
  · intro b o e
    refine hS b o (F.keep b o e) (fun q => ?_) fun p hp q => ?_
    · rw [q, gL] at e; cases e
    · rw [← q, (N p (hc p hp)).2.2] at e; cases e
  · intro b o e
    refine hS b o (up_of F N ht u b o e) (fun q => ?_) fun p hp q => ?_
    · rw [q, offL] at e; cases e
    · rw [← q, off p hp] at e; cases e

theorem frz_self (g : Heap) : frz g g = [] := List.eq_nil_iff_forall_not_mem.mpr fun p hp => by
  obtain ⟨h1, h2⟩ := mem_frz.mp hp
  rw [h1] at h2; cases h2
/-- the part of h' that does not stand in h -/
def newer (h h' : Heap) : Heap := hideAll h' ((List.range h'.objs.size).filter fun b => (h.get? b).isSome)
theorem newer_iff {h h' : Heap} {b : Addr} {o : Obj} : (newer h h').get? b = some o ↔ h.get? b = none ∧ h'.get? b = some o := by
  constructor
  · intro e
    have e' := of_hideAll _ e
    refine ⟨?_, e'⟩
    cases q : h.get? b with
    | none => rfl
    | some _ =>
      have hm : b ∈ (List.range h'.objs.size).filter fun b => (h.get? b).isSome := List.mem_filter.mpr ⟨List.mem_range.mpr (Heap.lt_size e'), by rw [q]; rfl⟩
      rw [newer, hideAll_none _ hm] at e
      cases e
  · rintro ⟨h1, h2⟩
    refine hideAll_get _ h2 fun hm => ?_
    have := (List.mem_filter.mp hm).2
    rw [h1] at this; cases this
theorem newer_up {h h1 h2 h' : Heap} (a : h.StaysIn h1) (b : h2.StaysIn h') : (newer h1 h2).StaysIn (newer h h') := fun x o e => by
  obtain ⟨e1, e2⟩ := newer_iff.mp e
  refine newer_iff.mpr ⟨?_, b _ _ e2⟩
  cases q : h.get? x with
  | none => rfl
  | some y => rw [a _ _ q] at e1; cases e1
theorem newer_sub (h h' : Heap) : (newer h h').StaysIn h' := fun _ _ e => (newer_iff.mp e).2

theorem Fr.kp {g h h' : Heap} {L : Addr} {m : Str → Option Value} {W : List Addr} (F : Fr g L h m) (k : Kp W h h') (hL : L ∉ W) (hg : ∀ a ∈ W, g.get? a = none) : Fr g L h' m := by
  obtain ⟨o, es, ep, ho, r⟩ := F.ns
  exact ⟨⟨o, es, ep, k _ _ hL ho, r⟩, fun b x e => k _ _ (fun hm => by rw [hg b hm] at e; cases e) (F.keep b x e), F.above⟩
theorem News.kp {g h h' : Heap} {L : Addr} {W : List Addr} {news : List (Addr × Obj)} (N : News g L h news) (k : Kp W h h') (hw : ∀ p ∈ news, p.1 ∉ W) : News g L h' news :=
  fun p hp => ⟨k _ _ (hw p hp) (N p hp).1, (N p hp).2⟩
theorem News.sub {g h : Heap} {L : Addr} {news news' : List (Addr × Obj)} (N : News g L h news) (hs : ∀ p ∈ news', p ∈ news) : News g L h news' := fun p hp => N p (hs p hp)
theorem News.kp1 {g h h' : Heap} {L a : Addr} {o o' : Obj} {news news' : List (Addr × Obj)} (U : Upd a o o' news news') (N : News g L h news) (k : Kp [a] h h') (e : h'.get? a = some o') : News g L h' news' := by
  obtain ⟨pre, post, rfl, rfl, h1, h2⟩ := U.split
  have D := N (a, o) (by simp)
  intro p hp
  rcases List.mem_append.mp hp with q | q
  · have P := N p (List.mem_append_left _ q); exact ⟨k _ _ (by simpa using h1 p q) P.1, P.2⟩
  · rcases List.mem_cons.mp q with rfl | q
    · exact ⟨e, D.2⟩
    · have P := N p (List.mem_append_right _ (.tail _ q)); exact ⟨k _ _ (by simpa using h2 p q) P.1, P.2⟩

theorem newer_frz {g h h' S' : Heap} {L : Addr} {m : Str → Option Value} {news cs : List (Addr × Obj)} (F : Fr g L h m) (N : News g L h news) (hc : ∀ p ∈ cs, p ∈ news)
    (o3 : ∀ b o, h'.get? b = some o → b ≠ L → (∀ p ∈ cs, p.1 ≠ b) → S'.get? b = some o) : (newer h h').StaysIn (newer g S') := fun b o e => by
  obtain ⟨e1, e2⟩ := newer_iff.mp e
  refine newer_iff.mpr ⟨?_, o3 b o e2 (fun q => ?_) (fun p hp q => ?_)⟩
  · cases q : g.get? b with
    | none => rfl
    | some x => have := F.keep _ _ q; rw [e1] at this; cases this
  · obtain ⟨x, _, _, e', _⟩ := F.ns
    rw [← q, e1] at e'; cases e'
  · have := (N p (hc p hp)).1
    rw [q, e1] at this; cases this
theorem inst_base {g h : Heap} {L x C dx : Addr} {m : Str → Option Value} {od : Obj} {sl : Array (Option Value)} (F : Fr g L h m) (h1 : g.get? x = some ⟨.ref C, some dx, .plain, sl⟩) (h2 : g.get? dx = some od) :
    InstAt h x ⟨.ref C, some dx, .plain, sl⟩ C (some od) := ⟨F.keep _ _ h1, rfl, rfl, F.keep _ _ h2⟩
theorem isList_keeps {h h' : Heap} {a : Addr} {o : Array Value} (x : h.IsList a o) (k : h.StaysIn h') : h'.IsList a o := let ⟨q, e, r⟩ := x; ⟨q, k _ _ e, r⟩
/-- the law's hand: its script, how many draws were made, how many parts may still be made -/
inductive HandAt (h : Heap) (hand scr : Addr) (k b : Int) : Prop
  | mk (t1 : Tok) (t2 : Tok) (n : Nat) (f19 : h.get? hand = some (W.listOf #[.ref scr, .int k t1, .int b t2] n)) : HandAt h hand scr k b
theorem isList_at {h : Heap} {a : Addr} {o : Array Value} {n : Nat} (e : h.get? a = some (W.listOf o n)) : h.IsList a o := ⟨_, e, rfl, n, rfl⟩

theorem fresh_call {g h h' : Heap} {L r : Addr} {m : Str → Option Value} {news : List (Addr × Obj)} {o : Obj} (F : Fr g L h m) (N : News g L h news) (k : Kp [] h h') (hr : h.get? r = none) (e : h'.get? r = some o) :
    Fr g L h' m ∧ News g L h' ((r, o) :: news) ∧ ∀ p ∈ news, p.1 ≠ r := by
  refine ⟨Fr.kp F k (fun q => nomatch q) (fun _ q => nomatch q), fun p hp => ?_, fun p hp q => ?_⟩
  · rcases List.mem_cons.mp hp with rfl | hp
    · refine ⟨e, fun q => ?_, ?_⟩
      · obtain ⟨oL, _, _, hL, _⟩ := F.ns
        rw [← q, hr] at hL; cases hL
      · cases q : g.get? r with
        | none => rfl
        | some x => have := F.keep _ _ q; rw [hr] at this; cases this
    · exact ⟨k _ _ (fun q => nomatch q) (N p hp).1, (N p hp).2⟩
  · have := (N p hp).1
    rw [q, hr] at this; cases this
theorem pure_call {g h h' : Heap} {L : Addr} {m : Str → Option Value} {news : List (Addr × Obj)} (F : Fr g L h m) (N : News g L h news) (k : Kp [] h h') :
    Fr g L h' m ∧ News g L h' news := ⟨Fr.kp F k (fun q => nomatch q) (fun _ q => nomatch q), fun p hp => ⟨k _ _ (fun q => nomatch q) (N p hp).1, (N p hp).2⟩⟩
theorem kp_of {g h h' : Heap} {L : Addr} {m : Str → Option Value} {W : List Addr} (e : g = hideAll h W) (F : Fr g L h' m) : Kp W h h' := fun b o n q => F.keep b o (e ▸ hideAll_get _ q n)
theorem fresh_of {g h : Heap} {W : List Addr} {a : Addr} (e : g = hideAll h W) (n : g.get? a = none) (na : a ∉ W) : h.get? a = none := by
  cases q : h.get? a with
  | none => rfl
  | some o => rw [e, hideAll_get _ q na] at n; cases n
theorem ins_none {m : Str → Option Value} {x : Str} (h : m x = none) : m = fun y => if y = x then none else m y := by
  funext y
  by_cases q : y = x
  · subst q; simp [h]
  · simp [q]
theorem ins_twice {m : Str → Option Value} {x : Str} {u v : Option Value} : (fun y => if y = x then v else if y = x then u else m y) = fun y => if y = x then v else m y := by
  funext y
  by_cases q : y = x <;> simp [q]

/-! ## a halt for the walk -/
def Stop (P : Prop) : Prop := P
theorem stop {P : Prop} (h : Stop P) : P := h
theorem Stop.mk {P : Prop} (h : P) : Stop P := h

/-! ## loops -/
theorem forK {w : World} {A : Around} {s : Shared} {env : Env} {R : Result → Shared → Prop} {x : Str} {px : Pos} {body : List Stmt} {g : Heap} {m₀ : Str → Option Value} {cs₀ : List (Addr × Obj)}
    {I : Addr} {fp : List Addr} {n : Nat} {P : Nat → Value → Prop} {St : Nat → Heap → Prop}
    (F : Fr g env.locals s.heap m₀) (N : News g env.locals s.heap cs₀) (W : Walks prog w A I fp [I] n P St) (hobj : ∀ i h, St i h → ∃ o, h.get? I = some o)
    (hx : env.kindOf x = some .local) (hp : (env.scope.kind == .class || (env.scope.kind == .module && env.locals != env.globals)) = false)
    (hfL : env.locals ∉ fp) (hI : g.get? I = none) (hst : St 0 s.heap)
    (J : Nat → (Str → Option Value) → List (Addr × Obj) → Prop) (h0 : J 0 m₀ cs₀) (hJI : ∀ p ∈ cs₀, p.1 ≠ I)
    (turn : ∀ i v m cs h tk oI, i < n → P i v → J i m cs → (∀ p ∈ cs, p.1 ≠ I) → Fr g env.locals h (fun y => if y = x then some v else m y) → News g env.locals h ((I, oI) :: cs) → St (i + 1) h →
      wpAny (model prog w) A (execs body env) (fun f s₃ => match f with
        | .next | .cont => Stop (∃ h' tk' m' cs', s₃ = { s with heap := h', toks := tk' } ∧ Fr g env.locals h' m' ∧ News g env.locals h' ((I, oI) :: cs') ∧ (∀ p ∈ cs', p.1 ≠ I) ∧ (∀ b ∈ fp, b ≠ I → ∀ o, h.get? b = some o → h'.get? b = some o) ∧ J (i + 1) m' cs')
        | .brk => R (.ok .next) s₃
        | .ret v => R (.ok (.ret v)) s₃) (fun _ _ => False) { s with heap := h, toks := tk })
    (done : ∀ m cs h tk, J n m cs → Fr g env.locals h m → News g env.locals h cs → R (.ok .next) { s with heap := h, toks := tk }) :
    codeAny (model prog w) A (.forLoop (.Name x px) (.ref I) body [] env) R s := by
  refine codeAny_forLoop (fun k s' => ∃ i h tk m cs, s' = { s with heap := h, toks := tk } ∧ i ≤ n ∧ k = n + 1 - i ∧ St i h ∧ Fr g env.locals h m ∧ News g env.locals h cs ∧ (∀ p ∈ cs, p.1 ≠ I) ∧ J i m cs) ?_ (n + 1)
    ⟨0, s.heap, s.toks, m₀, cs₀, rfl, Nat.zero_le _, rfl, hst, F, N, hJI, h0⟩
  rintro k s' ⟨i, h, tk, m, cs, rfl, hi, rfl, hst', F', N', hcI, hJ⟩
  have hIL : env.locals ≠ I := fun q => hfL (q ▸ W.sub I (.head _))
  have kpN : ∀ {h₁ : Heap}, (∀ b o, b ∉ [I] → h.get? b = some o → h₁.get? b = some o) → Fr g env.locals h₁ m ∧ News g env.locals h₁ cs := fun {h₁} kk =>
    ⟨Fr.kp F' (W := [I]) kk (by simpa using hIL) (by simpa using hI), News.kp N' (W := [I]) kk fun p hp => by simpa using hcI p hp⟩
  by_cases hlt : i < n
  · refine W.item i _ _ _ hlt hst' fun v h₁ tk₁ hPv hst₁ hk₁ => ?_
    obtain ⟨F₁, N₁⟩ := kpN hk₁
    obtain ⟨oI, hoI⟩ := hobj _ _ hst₁
    have N₁' : News g env.locals h₁ ((I, oI) :: cs) := fun p hp => by
      rcases List.mem_cons.mp hp with rfl | hp
      · exact ⟨hoI, Ne.symm hIL, hI⟩
      · exact N₁ p hp
    refine wpAny_assign_Name (wpAny_storeName_local hx F₁.ns (fun h₂ hn₂ hs₂ => ?_) hp)
    have hst₂ : St (i + 1) h₂ := W.frame _ _ _ hst₁ fun b hb o e => hs₂.extBut b o (fun q => hfL (q ▸ hb)) e
    refine wpAny_mono (turn i v m cs h₂ _ oI hlt hPv hJ hcI (F₁.set hn₂ hs₂) (N₁'.set hs₂) hst₂) (fun f s₃ h₃ => ?_) fun _ _ e => e.elim
    have fin : (∃ h' tk' m' cs', s₃ = { s with heap := h', toks := tk' } ∧ Fr g env.locals h' m' ∧ News g env.locals h' ((I, oI) :: cs') ∧ (∀ p ∈ cs', p.1 ≠ I) ∧ (∀ b ∈ fp, b ≠ I → ∀ o, h₂.get? b = some o → h'.get? b = some o) ∧ J (i + 1) m' cs') →
        ∃ k', k' < n + 1 - i ∧ ∃ i h tk m cs, s₃ = { s with heap := h, toks := tk } ∧ i ≤ n ∧ k' = n + 1 - i ∧ St i h ∧ Fr g env.locals h m ∧ News g env.locals h cs ∧ (∀ p ∈ cs, p.1 ≠ I) ∧ J i m cs := by
      rintro ⟨h', tk', m', cs', e, F₃, N₃, hcI', hf, hJ'⟩
      refine ⟨n + 1 - (i + 1), by omega, i + 1, h', tk', m', cs', e, hlt, rfl, W.frame _ _ _ hst₂ fun b hb o e => ?_, F₃, News.sub N₃ (fun p hp => .tail _ hp), hcI', hJ'⟩
      by_cases q : b = I
      · subst q
        have h1 := (N₃ (b, oI) (.head _)).1
        have h2 := (hs₂.extBut b oI (Ne.symm hIL) hoI)
        rw [h2] at e; cases e
        exact h1
      · exact hf b hb q o e
    cases f with
    | next => exact fin h₃
    | cont => exact fin h₃
    | brk => exact h₃
    | ret v => exact h₃
  · have hin : i = n := by omega
    subst hin
    refine W.done _ _ _ hst' fun h₁ tk₁ hk₁ => wpAny_execs_nil ?_
    obtain ⟨F₁, N₁⟩ := kpN hk₁
    exact done m cs h₁ tk₁ hJ F₁ N₁

theorem forList {w : World} {A : Around} {s : Shared} {env : Env} {R : Result → Shared → Prop} {E : Value → Shared → Prop} {x : Str} {px : Pos} {body : List Stmt} {g : Heap} {m₀ : Str → Option Value} {cs₀ : List (Addr × Obj)}
    {c : Addr} {items : Array Value} (F : Fr g env.locals s.heap m₀) (N : News g env.locals s.heap cs₀) (hh : A.handled = none) (hl : s.heap.IsList c items) (hcL : c ≠ env.locals)
    (hx : env.kindOf x = some .local) (hp : (env.scope.kind == .class || (env.scope.kind == .module && env.locals != env.globals)) = false)
    (J : Nat → (Str → Option Value) → List (Addr × Obj) → Prop) (h0 : J 0 m₀ cs₀)
    (turn : ∀ i v m cs h tk I oI, items[i]? = some v → J i m cs → (∀ p ∈ cs, p.1 ≠ I) → Fr g env.locals h (fun y => if y = x then some v else m y) → News g env.locals h ((I, oI) :: cs) → h.IsList c items →
      wpAny (model prog w) A (execs body env) (fun f s₃ => match f with
        | .next | .cont => Stop (∃ h' tk' m' cs', s₃ = { s with heap := h', toks := tk' } ∧ Fr g env.locals h' m' ∧ News g env.locals h' ((I, oI) :: cs') ∧ (∀ p ∈ cs', p.1 ≠ I) ∧ (∀ o, h.get? c = some o → h'.get? c = some o) ∧ J (i + 1) m' cs')
        | .brk => R (.ok .next) s₃
        | .ret v => R (.ok (.ret v)) s₃) (fun _ _ => False) { s with heap := h, toks := tk })
    (done : ∀ m cs h tk, J items.size m cs → Fr g env.locals h m → News g env.locals h cs → R (.ok .next) { s with heap := h, toks := tk }) :
    wpAny (model prog w) A (pyIter (.ref c)) (fun it s₂ => codeAny (model prog w) A (.forLoop (.Name x px) it body [] env) R s₂) E s := by
  obtain ⟨oc, hoc, _⟩ := id hl
  have hcI : c ≠ s.heap.objs.size := Nat.ne_of_lt (Heap.lt_size hoc)
  have hLI : env.locals ≠ s.heap.objs.size := Nat.ne_of_lt F.ns.lt
  have gI : g.get? s.heap.objs.size = none := by
    cases q : g.get? s.heap.objs.size with
    | none => rfl
    | some o => exact absurd (Heap.lt_size (F.keep _ _ q)) (Nat.lt_irrefl _)
  refine wpAny_pyIter_list hl ?_
  refine forK (s := { s with heap := s.heap.push _ }) (F.push _) (fun p hp => ⟨Heap.get?_push_of_some _ (N p hp).1, (N p hp).2⟩) (Walks.list hh s.heap.objs.size c hcI items) (fun i h st => ?_) hx hp ?_ gI
    ⟨⟨_, Heap.get?_push_size _ rfl, rfl, rfl⟩, hl.push _⟩ J h0 (fun p hp => Nat.ne_of_lt (Heap.lt_size (N p hp).1)) ?_ done
  · obtain ⟨⟨o, ho, _⟩, _⟩ := st
    exact ⟨o, ho⟩
  · intro hm
    rcases List.mem_cons.mp hm with q | hm
    · exact hLI q
    · exact hcL (List.mem_singleton.mp hm).symm
  · intro i v m cs h tk oI hi hv hJ hc F₁ N₁ st
    refine wpAny_mono (turn i v m cs h tk _ oI hv hJ hc F₁ N₁ st.2) (fun f s₃ h₃ => ?_) fun _ _ e => e
    have fin : (∃ h' tk' m' cs', s₃ = { s with heap := h', toks := tk' } ∧ Fr g env.locals h' m' ∧ News g env.locals h' ((s.heap.objs.size, oI) :: cs') ∧ (∀ p ∈ cs', p.1 ≠ s.heap.objs.size) ∧ (∀ o, h.get? c = some o → h'.get? c = some o) ∧ J (i + 1) m' cs') →
        (∃ h' tk' m' cs', s₃ = { s with heap := h', toks := tk' } ∧ Fr g env.locals h' m' ∧ News g env.locals h' ((s.heap.objs.size, oI) :: cs') ∧ (∀ p ∈ cs', p.1 ≠ s.heap.objs.size) ∧ (∀ b ∈ [s.heap.objs.size, c], b ≠ s.heap.objs.size → ∀ o, h.get? b = some o → h'.get? b = some o) ∧ J (i + 1) m' cs') := by
      rintro ⟨h', tk', m', cs', e, a, b, hc', k, j⟩
      refine ⟨h', tk', m', cs', e, a, b, hc', fun b hb n o e => ?_, j⟩
      rcases List.mem_cons.mp hb with q | hb
      · exact absurd q n
      · rw [List.mem_singleton.mp hb] at e ⊢
        exact k o e
    cases f with
    | next => exact fin h₃
    | cont => exact fin h₃
    | brk => exact h₃
    | ret v => exact h₃
end
theorem epsAll {α : Type} (n : Nonempty α) (P : α → Prop) (h : P (@Classical.epsilon α n fun t => ¬ P t)) : ∀ t, P t := by
  intro t
  by_cases q : P t
  · exact q
  · exact absurd h (@Classical.epsilon_spec α (fun t => ¬ P t) ⟨t, q⟩)
theorem nePair {α β : Type} (a : Nonempty α) (b : Nonempty β) : Nonempty (α × β) := by
  obtain ⟨a⟩ := a; obtain ⟨b⟩ := b; exact ⟨(a, b)⟩
theorem neWorld : Nonempty World := ⟨aWorld 1⟩
theorem neShared : Nonempty Shared := ⟨{}⟩
theorem neAround : Nonempty Around := ⟨callerA⟩
noncomputable section
theorem enter2 {L₀ : Addr} {w : World} {A : Around} {R : Result → Shared → Prop} {s : Shared} {f : Addr} {args : Args} {binds : List (Str × Value)} {K : Frag} {p : Program} {loose : List Str} {mean : ExcName → Option Value} {mg mb : Str → Option Value}
    {name qual : Str} {params : Arguments} {body : List Stmt} {scope : Scope} {dV kV doc pm cdv ct oc : Value} {an od : Option Addr} {osl : Array (Option Value)} {B : Heap} (W : List (Addr × Obj))
    (X : K.In B) (T : Top p loose mean mg mb B) (U : B.StaysIn s.heap) (hW : ∀ q ∈ W, s.heap.get? q.1 = some q.2 ∧ B.get? q.1 = none)
    (ho : K.lookup f = some ⟨oc, od, .func (fnOf name qual params body scope dV kV doc pm an cdv ct), osl⟩) (hcd : codeIn K cdv qual = true) (hroom : A.depth < recursionLimit)
    (hbind : BindsTo s (fnOf name qual params body scope dV kV doc pm an cdv ct) args binds) (hloc : ∀ y ∈ binds, scope.names.lookup y.1 = some .local)
    (h : ∀ g h₁, g = hideAll s.heap (W.map (·.1)) → B.StaysIn g → Fr g L₀ h₁ (fun y => binds.reverse.lookup y) → News g L₀ h₁ W → K.In g → Top p loose mean mg mb g → s.heap.StaysIn h₁ →
      wpAny (model prog w) (A.deeper (envOf qual scope L₀ f cdv)) (execs body (envOf qual scope L₀ f cdv))
        (fun fl s' => R (.ok (.ret (match fl with | .ret v => v | _ => .none))) s') (fun _ _ => False) { s with heap := h₁, toks := s.toks + binds.length })
    (hco : scope.isCoroutine = false := by exact rfl) (hgen : scope.isGenerator = false := by exact rfl) (hk : scope.kind = .function := by exact rfl)
    (hcell : ∀ x ∈ scope.names, x.2 ≠ .cell := by decide) (eL : L₀ = s.heap.objs.size := by exact rfl) : codeAny (model prog w) A (.call (.ref f) args) R s := by
  subst eL
  have XS := X.keeps U
  have hst : B.StaysIn (hideAll s.heap (W.map (·.1))) := fun b o e => hideAll_get _ (U b o e) fun hm => by
    obtain ⟨q, hq, e'⟩ := List.mem_map.mp hm
    have := (hW q hq).2
    rw [e', e] at this; cases this
  refine codeAny_call_def (fd := fnOf name qual params body scope dV kV doc pm an cdv ct) (body := body) (binds := binds) hroom (XS _ _ ho) rfl (T.nolimit.keeps U) (codeRec_of XS hcd) rfl hbind hcell hloc (fun h₁ hns hk₁ => ?_) hco hgen hk
  refine wpAny_mono (h _ h₁ rfl hst ⟨hns, fun b o e => hk₁ b o (of_hideAll _ e), Nat.le_of_eq (hideAll_size _ _)⟩
    (fun q hq => ⟨hk₁ _ _ (hW q hq).1, Nat.ne_of_lt (Heap.lt_size (hW q hq).1), hideAll_none _ (List.mem_map_of_mem hq)⟩) (X.keeps hst) (T.keeps hst) hk₁) (fun _ _ q => q) fun _ _ q => q.elim

end
noncomputable section
/-- a drawn part: a word by its number, or a labelled row of parts -/
inductive D where
  | leaf (i : Nat)
  | node (lab : Str) (ds : List D)

mutual
def D.leaves : D → List Nat
  | .leaf i => [i]
  | .node _ ds => leavesL ds
def leavesL : List D → List Nat
  | [] => []
  | d :: r => d.leaves ++ leavesL r
end
mutual
def D.ht : D → Nat
  | .leaf _ => 0
  | .node _ ds => htL ds + 1
def htL : List D → Nat
  | [] => 0
  | d :: r => max d.ht (htL r)
end
mutual
def D.size : D → Nat
  | .leaf _ => 1
  | .node _ ds => sizeL ds + 1
def sizeL : List D → Nat
  | [] => 0
  | d :: r => d.size + sizeL r
end
theorem ht_le {ds : List D} {d : D} (h : d ∈ ds) : d.ht ≤ htL ds := by
  induction ds with
  | nil => cases h
  | cons x r ih =>
    rw [htL]
    rcases List.mem_cons.mp h with rfl | h
    · omega
    · have := ih h; omega
theorem size_lt {ds : List D} {d : D} (h : d ∈ ds) : d.size ≤ sizeL ds := by
  induction ds with
  | nil => cases h
  | cons x r ih =>
    rw [sizeL]
    rcases List.mem_cons.mp h with rfl | h
    · omega
    · have := ih h; omega
theorem leavesL_append (a b : List D) : leavesL (a ++ b) = leavesL a ++ leavesL b := by
  induction a with
  | nil => rfl
  | cons x r ih => simp only [List.cons_append, leavesL, ih, List.append_assoc]
theorem leavesL_take_succ {ds : List D} {i : Nat} {d : D} (h : ds[i]? = some d) : leavesL (ds.take (i + 1)) = leavesL (ds.take i) ++ d.leaves := by
  rw [List.take_add_one, h, leavesL_append]
  simp [leavesL]
mutual
theorem leaves_le_size : ∀ d : D, d.leaves.length ≤ d.size
  | .leaf _ => by simp [D.leaves, D.size]
  | .node _ ds => by have := leavesL_le_size ds; simp only [D.leaves, D.size]; omega
theorem leavesL_le_size : ∀ ds : List D, (leavesL ds).length ≤ sizeL ds
  | [] => by simp [leavesL, sizeL]
  | d :: r => by have := leaves_le_size d; have := leavesL_le_size r; simp only [leavesL, sizeL, List.length_append]; omega
end

theorem sizeL_take_le (ds : List D) (i : Nat) : sizeL (ds.take i) ≤ sizeL ds := by
  induction ds generalizing i with
  | nil => simp [sizeL]
  | cons d r ih =>
    cases i with
    | zero => simp [sizeL]
    | succ i => simp only [List.take_succ_cons, sizeL]; have := ih i; omega
theorem leavesL_take_le (ds : List D) (i : Nat) : (leavesL (ds.take i)).length ≤ sizeL ds := Nat.le_trans (leavesL_le_size _) (sizeL_take_le ds i)

theorem len_le_sizeL : ∀ ds : List D, ds.length ≤ sizeL ds
  | [] => Nat.le_refl _
  | d :: r => by
    have := len_le_sizeL r
    have : 1 ≤ d.size := by cases d <;> simp [D.size]
    simp only [sizeL, List.length_cons]; omega

/-- the text of the word of number i -/
def wordStr (i : Nat) : Str := Str.ofString "w" ++ Str.ofString (toString (i : Int))

/-- the values are the words of these numbers -/
inductive Words : List Value → List Nat → Prop
  | nil : Words [] []
  | cons {i : Nat} {t : Tok} {vs : List Value} {is : List Nat} : Words vs is → Words (.str (wordStr i) t :: vs) (i :: is)
theorem Words.append {a b : List Value} {x y : List Nat} (h : Words a x) (k : Words b y) : Words (a ++ b) (x ++ y) := by
  induction h with
  | nil => exact k
  | cons _ ih => exact .cons ih
theorem Words.one (i : Nat) (t : Tok) : Words [.str (wordStr i) t] [i] := .cons .nil
theorem Words.length {a : List Value} {x : List Nat} (h : Words a x) : a.length = x.length := by
  induction h with
  | nil => rfl
  | cons _ ih => simp [ih]
theorem Words.get {a : List Value} {x : List Nat} (h : Words a x) {k : Nat} {i : Nat} (e : x[k]? = some i) : ∃ t, a[k]? = some (.str (wordStr i) t) := by
  induction h generalizing k with
  | nil => cases e
  | cons _ ih =>
    rename_i j t vs is _
    cases k with
    | zero => simp at e; subst e; exact ⟨t, rfl⟩
    | succ k => exact ih e

abbrev tupO (xs : Array Value) : Obj := { cls := .type "tuple", data := .seq xs }
abbrev treeEs (w : World) (t1 t2 : Tok) (c : Addr) (lab : Str) (t3 : Tok) : List DictEntry :=
  [⟨PyData.keyHash w.params (Str.ofString "_children"), .str (Str.ofString "_children") t1, .ref c⟩, ⟨PyData.keyHash w.params (Str.ofString "_label"), .str (Str.ofString "_label") t2, .str lab t3⟩]

/-- the heap bears the tree d at v -/
inductive TreeAt (w : World) (h : Heap) : Value → D → Prop
  | leaf {i : Nat} {t : Tok} : TreeAt w h (.str (wordStr i) t) (.leaf i)
  | node {x dx c : Addr} {lab : Str} {t1 t2 t3 : Tok} {k : Nat} {items : List Value} {ds : List D} : h.get? x = some (instObj 145 dx) → h.get? dx = some (dictOf (treeEs w t1 t2 c lab t3) 2) →
      h.get? c = some (W.listOf items.toArray k) → items.length = ds.length → (∀ (i : Nat) (v : Value) (d : D), items[i]? = some v → ds[i]? = some d → TreeAt w h v d) → TreeAt w h (.ref x) (.node lab ds)
theorem TreeAt.up {w : World} {h h' : Heap} {v : Value} {d : D} (T : TreeAt w h v d) (u : h.StaysIn h') : TreeAt w h' v d := by
  induction T with
  | leaf => exact .leaf
  | node h1 h2 h3 h4 _ ih => exact .node (u _ _ h1) (u _ _ h2) (u _ _ h3) h4 ih

/-- the heap bears the drawing d at v -/
inductive DrawnAt (h : Heap) : Value → D → Prop
  | leaf {i : Nat} {t : Tok} : DrawnAt h (.str (wordStr i) t) (.leaf i)
  | node {a l : Addr} {lab : Str} {t : Tok} {k : Nat} {items : List Value} {ds : List D} : h.get? a = some (tupO #[.str lab t, .ref l]) →
      h.get? l = some (W.listOf items.toArray k) → items.length = ds.length → (∀ (i : Nat) (v : Value) (d : D), items[i]? = some v → ds[i]? = some d → DrawnAt h v d) → DrawnAt h (.ref a) (.node lab ds)
theorem DrawnAt.up {h h' : Heap} {v : Value} {d : D} (T : DrawnAt h v d) (u : h.StaysIn h') : DrawnAt h' v d := by
  induction T with
  | leaf => exact .leaf
  | node h1 h2 h4 _ ih => exact .node (u _ _ h1) (u _ _ h2) h4 ih

mutual
def D.subs : D → List D
  | .leaf _ => []
  | .node lab ds => .node lab ds :: subsL ds
def subsL : List D → List D
  | [] => []
  | d :: r => d.subs ++ subsL r
end
/-- the heap bears the tree d at v; V are its inner parts, the top first -/
inductive TreeV (w : World) (h : Heap) : Value → D → List Value → Prop
  | leaf {i : Nat} {t : Tok} : TreeV w h (.str (wordStr i) t) (.leaf i) []
  | node {x dx c : Addr} {lab : Str} {t1 t2 t3 : Tok} {k : Nat} {items : List Value} {ds : List D} {Vs : List (List Value)} : h.get? x = some (instObj 145 dx) → h.get? dx = some (dictOf (treeEs w t1 t2 c lab t3) 2) →
      h.get? c = some (W.listOf items.toArray k) → items.length = ds.length → Vs.length = ds.length →
      (∀ (i : Nat) (v : Value) (d : D) (V : List Value), items[i]? = some v → ds[i]? = some d → Vs[i]? = some V → TreeV w h v d V) → TreeV w h (.ref x) (.node lab ds) (.ref x :: Vs.flatten)
theorem TreeV.up {w : World} {h h' : Heap} {v : Value} {d : D} {V : List Value} (T : TreeV w h v d V) (u : h.StaysIn h') : TreeV w h' v d V := by
  induction T with
  | leaf => exact .leaf
  | node h1 h2 h3 h4 h5 _ ih => exact .node (u _ _ h1) (u _ _ h2) (u _ _ h3) h4 h5 ih
theorem TreeV.at {w : World} {h : Heap} {v : Value} {d : D} {V : List Value} (T : TreeV w h v d V) : TreeAt w h v d := by
  induction T with
  | leaf => exact .leaf
  | node h1 h2 h3 h4 h5 _ ih =>
    rename_i Vs _
    refine .node h1 h2 h3 h4 fun i v d hv hd => ?_
    have hlt : i < Vs.length := h5 ▸ (List.getElem?_eq_some_iff.mp hd).1
    exact ih i v d Vs[i] hv hd (List.getElem?_eq_getElem hlt)
theorem list_choose {α β : Type} {P : Nat → α → β → Prop} : ∀ (l : List α), (∀ i a, l[i]? = some a → ∃ b, P i a b) → ∃ m : List β, m.length = l.length ∧ ∀ i a b, l[i]? = some a → m[i]? = some b → P i a b := by
  intro l
  induction l generalizing P with
  | nil => exact fun _ => ⟨[], rfl, fun i a b h => by simp at h⟩
  | cons x r ih =>
    intro h
    obtain ⟨b, hb⟩ := h 0 x rfl
    obtain ⟨m, hm, hp⟩ := ih (P := fun i a b => P (i + 1) a b) fun i a e => h (i + 1) a e
    refine ⟨b :: m, by simp [hm], fun i a c e1 e2 => ?_⟩
    cases i with
    | zero => simp at e1 e2; subst e1; subst e2; exact hb
    | succ i => exact hp i a c e1 e2
theorem TreeAt.exV {w : World} {h : Heap} {v : Value} {d : D} (T : TreeAt w h v d) : ∃ V, TreeV w h v d V := by
  induction T with
  | leaf => exact ⟨[], .leaf⟩
  | node h1 h2 h3 h4 _ ih =>
    rename_i items ds _
    obtain ⟨Vs, hl, hV⟩ := list_choose (P := fun i d V => ∀ v, items[i]? = some v → TreeV w h v d V) ds fun i d hd => by
      have hlt : i < items.length := h4 ▸ (List.getElem?_eq_some_iff.mp hd).1
      obtain ⟨V, hV⟩ := ih i items[i] d (List.getElem?_eq_getElem hlt) hd
      exact ⟨V, fun v hv => by rw [List.getElem?_eq_getElem hlt] at hv; cases hv; exact hV⟩
    exact ⟨_, .node h1 h2 h3 h4 hl fun i v d V e1 e2 e3 => hV i d V e2 e3 v e1⟩
theorem TreeV.inv {w : World} {h : Heap} {v : Value} {d : D} {V : List Value} (T : TreeV w h v d V) : (∃ i t, v = .str (wordStr i) t ∧ V = [] ∧ d = .leaf i) ∨
    (∃ y dy cy lab t1 t2 t3, v = .ref y ∧ h.get? y = some (instObj 145 dy) ∧ h.get? dy = some (dictOf (treeEs w t1 t2 cy lab t3) 2)) := by
  cases T with
  | leaf => exact .inl ⟨_, _, rfl, rfl, rfl⟩
  | node h1 h2 => exact .inr ⟨_, _, _, _, _, _, _, rfl, h1, h2⟩

/-- the values are these trees, one by one -/
def Trees (w : World) (h : Heap) (vs : List Value) (ds : List D) : Prop := vs.length = ds.length ∧ ∀ (i : Nat) (v : Value) (d : D), vs[i]? = some v → ds[i]? = some d → TreeAt w h v d
theorem Trees.nil {w : World} {h : Heap} : Trees w h [] [] := ⟨rfl, fun i v d e => by simp at e⟩
theorem Trees.up {w : World} {h h' : Heap} {vs : List Value} {ds : List D} (T : Trees w h vs ds) (u : h.StaysIn h') : Trees w h' vs ds := ⟨T.1, fun i v d a b => (T.2 i v d a b).up u⟩
theorem Trees.snoc {w : World} {h : Heap} {vs : List Value} {ds : List D} {v : Value} {d : D} (T : Trees w h vs ds) (t : TreeAt w h v d) : Trees w h (vs ++ [v]) (ds ++ [d]) := by
  refine ⟨by simp [T.1], fun i v' d' a b => ?_⟩
  rcases Nat.lt_trichotomy i vs.length with q | q | q
  · rw [List.getElem?_append_left q] at a
    rw [List.getElem?_append_left (T.1 ▸ q)] at b
    exact T.2 i v' d' a b
  · subst q
    rw [List.getElem?_append_right (Nat.le_refl _)] at a
    rw [List.getElem?_append_right (by rw [T.1]; exact Nat.le_refl _), T.1] at b
    simp at a b
    subst a; subst b
    exact t
  · rw [List.getElem?_eq_none (by rw [List.length_append, List.length_singleton]; omega)] at a
    cases a
/-- the same for drawings -/
def Drawns (h : Heap) (vs : List Value) (ds : List D) : Prop := vs.length = ds.length ∧ ∀ (i : Nat) (v : Value) (d : D), vs[i]? = some v → ds[i]? = some d → DrawnAt h v d
theorem Drawns.nil {h : Heap} : Drawns h [] [] := ⟨rfl, fun i v d e => by simp at e⟩
theorem Drawns.up {h h' : Heap} {vs : List Value} {ds : List D} (T : Drawns h vs ds) (u : h.StaysIn h') : Drawns h' vs ds := ⟨T.1, fun i v d a b => (T.2 i v d a b).up u⟩
theorem Drawns.snoc {h : Heap} {vs : List Value} {ds : List D} {v : Value} {d : D} (T : Drawns h vs ds) (t : DrawnAt h v d) : Drawns h (vs ++ [v]) (ds ++ [d]) := by
  refine ⟨by simp [T.1], fun i v' d' a b => ?_⟩
  rcases Nat.lt_trichotomy i vs.length with q | q | q
  · rw [List.getElem?_append_left q] at a
    rw [List.getElem?_append_left (T.1 ▸ q)] at b
    exact T.2 i v' d' a b
  · subst q
    rw [List.getElem?_append_right (Nat.le_refl _)] at a
    rw [List.getElem?_append_right (by rw [T.1]; exact Nat.le_refl _), T.1] at b
    simp at a b
    subst a; subst b
    exact t
  · rw [List.getElem?_eq_none (by rw [List.length_append, List.length_singleton]; omega)] at a
    cases a
theorem take_snoc {α : Type} {l : List α} {i : Nat} {a : α} (h : l[i]? = some a) : l.take (i + 1) = l.take i ++ [a] := by
  rw [List.take_add_one, h]; rfl
end
theorem neD : Nonempty D := ⟨.leaf 0⟩
theorem TreeAt.ex {w : World} {h : Heap} {x : Addr} {d : D} (T : TreeAt w h (.ref x) d) : ∃ dx c lab t1 t2 t3, h.get? x = some (instObj 145 dx) ∧ h.get? dx = some (dictOf (treeEs w t1 t2 c lab t3) 2) := by
  cases T with
  | node h1 h2 => exact ⟨_, _, _, _, _, _, h1, h2⟩
theorem absP {M : Model} {A : Around} {α : Type} {Q : α → Shared → Prop} {E : Value → Shared → Prop} {t : Sem α} {s : Shared} (h : ∀ P : α → Shared → Prop, (∀ a s', Q a s' → P a s') → wpAny M A t P E s) : wpAny M A t Q E s := h Q fun _ _ x => x
noncomputable section
/-! ## generators -/
def priv (o : Obj) : Bool := o.cls == .type "list_iterator" || match o.data with
  | .dict .. => true
  | _ => false

/-- what a wake may move: dicts and list iterators that are neither of B nor at X -/
structure Mv (B : Heap) (X : List Addr) (s s' : Shared) : Prop where
  heap : ∀ b o, s.heap.get? b = some o → (priv o = false ∨ b ∈ X ∨ (B.get? b).isSome = true) → s'.heap.get? b = some o
  gsz : s.gens.size ≤ s'.gens.size
  bare : AllBare s.gens → AllBare s'.gens
  os : s'.os = s.os
  drawn : s'.drawn = s.drawn
/-- what the user may move between two wakes: the objects at X, the generators at GX -/
structure Sm (X : List Addr) (GX : List Nat) (s s' : Shared) : Prop where
  heap : ∀ b o, b ∉ X → s.heap.get? b = some o → s'.heap.get? b = some o
  gens : ∀ i, i ∉ GX → i < s.gens.size → s'.gens[i]? = s.gens[i]?
  alive : ∀ b ∈ X, ∃ o, s'.heap.get? b = some o
  gsz : s.gens.size ≤ s'.gens.size

theorem Mv.refl {B : Heap} {X : List Addr} {s : Shared} : Mv B X s s := ⟨fun _ _ e _ => e, Nat.le_refl _, id, rfl, rfl⟩
theorem Mv.trans {B : Heap} {X : List Addr} {s s' s'' : Shared} (a : Mv B X s s') (b : Mv B X s' s'') : Mv B X s s'' :=
  ⟨fun x o e p => b.heap x o (a.heap x o e p) p, Nat.le_trans a.gsz b.gsz, fun h => b.bare (a.bare h), b.os.trans a.os, b.drawn.trans a.drawn⟩
theorem Mv.mono {B : Heap} {X X' : List Addr} {s s' : Shared} (a : Mv B X' s s') (h : ∀ b ∈ X, b ∈ X') : Mv B X s s' :=
  ⟨fun x o e p => a.heap x o e (p.imp id (.imp (h x) id)), a.gsz, a.bare, a.os, a.drawn⟩
theorem Mv.alive {B : Heap} {X : List Addr} {s s' : Shared} (a : Mv B X s s') (h : ∀ b ∈ X, ∃ o, s.heap.get? b = some o) : ∀ b ∈ X, ∃ o, s'.heap.get? b = some o :=
  fun b hb => let ⟨o, e⟩ := h b hb; ⟨o, a.heap b o e (.inr (.inl hb))⟩
theorem Sm.refl {X : List Addr} {GX : List Nat} {s : Shared} (h : ∀ b ∈ X, ∃ o, s.heap.get? b = some o) : Sm X GX s s := ⟨fun _ _ _ e => e, fun _ _ _ => rfl, h, Nat.le_refl _⟩
theorem Sm.trans {X : List Addr} {GX : List Nat} {s s' s'' : Shared} (a : Sm X GX s s') (b : Sm X GX s' s'') : Sm X GX s s'' :=
  ⟨fun x o n e => b.heap x o n (a.heap x o n e), fun i n h => (b.gens i n (Nat.lt_of_lt_of_le h a.gsz)).trans (a.gens i n h), b.alive, Nat.le_trans a.gsz b.gsz⟩

def RR (B : Heap) (X : List Addr) : GenEnd := fun n s₀ r s₁ => r = .ok (.ret .none) ∧ (n = 0 ∧ Mv B X s₀ s₁)
def YY (B : Heap) (V : List Value) (X : List Addr) (GX : List Nat) (g : Nat) : Protocol := fun k s₀ v s₁ kap => V[V.length - 1 - k]? = some v ∧ Mv B X s₀ s₁ ∧ ∀ s'', Sm X (g :: GX) s₁ s'' → kap (.send .none) s''
/-- the generator object a, of number g, has n of the values V left -/
inductive GAt (w : World) (A : Around) (B : Heap) (V : List Value) (X : List Addr) (GX : List Nat) (a : Addr) (g n : Nat) (s : Shared) : Prop
  | mk (f19 : s.heap.IsGen a g) (f29 : a ∉ X) (f39 : g ∉ GX) (f49 : (∀ b ∈ X, ∃ o, s.heap.get? b = some o)) (gs : GenState) (f59 : s.gens[g]? = some gs) (f69 : ∀ s'', Sm X GX s s'' → gs.Goes (model prog w) A (RR B X) (YY B V X GX g) n (.send .none) (s''.setGen g .running)) : GAt w A B V X GX a g n s
theorem gens_lt {s : Shared} {g : Nat} {gs : GenState} (h : s.gens[g]? = some gs) : g < s.gens.size := by
  rcases Nat.lt_or_ge g s.gens.size with h' | h'
  · exact h'
  · rw [Array.getElem?_eq_none h'] at h; cases h
theorem GAt.move {w : World} {A : Around} {B : Heap} {V : List Value} {X : List Addr} {GX : List Nat} {a : Addr} {g n : Nat} {s s' : Shared} (G : GAt w A B V X GX a g n s) (h : Sm X GX s s') : GAt w A B V X GX a g n s' := by
  obtain ⟨⟨o, nm, qn, ho, r⟩, ha, hg, _, gs, hgs, hgo⟩ := G
  exact ⟨⟨o, nm, qn, h.heap _ _ ha ho, r⟩, ha, hg, h.alive, gs, (h.gens g hg (gens_lt hgs)).trans hgs, fun s'' k => hgo s'' (h.trans k)⟩
theorem bare_set {gens : Array GenState} {g : Nat} {x : GenState} (h : AllBare gens) (hx : x.bare = true) : AllBare (gens.setIfInBounds g x) := by
  intro y hy
  obtain ⟨i, hi, rfl⟩ := Array.mem_iff_getElem.mp hy
  rw [Array.getElem_setIfInBounds]
  · split
    · exact hx
    · exact h _ (Array.getElem_mem _)
  · simpa using hi
theorem setGen_heap {s : Shared} {g : Nat} {x : GenState} : (s.setGen g x).heap = s.heap := rfl
theorem setGen_size {s : Shared} {g : Nat} {x : GenState} : (s.setGen g x).gens.size = s.gens.size := by simp [Shared.setGen]
theorem setGen_ne {s : Shared} {g i : Nat} {x : GenState} (h : i ≠ g) : (s.setGen g x).gens[i]? = s.gens[i]? := by
  simp [Shared.setGen, Array.getElem?_setIfInBounds, Ne.symm h]

theorem GAt.next {w : World} {A : Around} {B : Heap} {V : List Value} {X : List Addr} {GX : List Nat} {a : Addr} {g n : Nat} {s : Shared} {Q : Option Value → Shared → Prop} {E : Value → Shared → Prop}
    (hh : A.handled = none) (hl : s.heap.NoLimit) (hroom : A.depth < recursionLimit) (G : GAt w A.in1 B V X GX a g n s)
    (done : n = 0 → ∀ s', Mv B X s s' → Q none s')
    (more : ∀ m v s', n = m + 1 → V[V.length - 1 - m]? = some v → Mv B X s s' → GAt w A.in1 B V X GX a g m s' → Q (some v) s') :
    wpAny (model prog w) A (pyNext (.ref a)) Q E s := by
  obtain ⟨hg, ha, hgx, hal, gs, hgs, hgo⟩ := G
  have go := hgo s (Sm.refl hal)
  unfold pyNext
  refine wpAny_bind (wpAny_attempt (wpAny_callSpecial?_slot (name := Str.ofString "__next__") hg.typeIs slot_gen_next
    (wpAny_call_entry slot_gen_next hg.typeIs entry_gen_next ?_ (args_gen_next _))))
  show wpAny _ A.in1 (Builtin.Generator.genWake (.ref a) (.send .none)) _ _ s
  unfold Builtin.Generator.genWake
  refine wpAny_bind (wpAny_holding (wpAny_genNumber hg (wpAny_bind (wpAny_genState hgs ?_))))
  cases gs with
  | running => exact go.elim
  | finished => exact go.elim
  | _ =>
    refine wpAny_bind (wpAny_roomToWake hl hroom ?_)
    show wpAny _ A.in1 (.resume g (.send .none) [] _) _ _ s
    refine wpAny_resumeQ hgs go (fun x s₁ hx => ?_) (fun v s₁ gs' hb hv => ?_)
    · obtain ⟨rfl, hn, hm⟩ := hx
      show wpAny _ A.in1 (newExc (.type "StopIteration") [] >>= _) _ _ _
      refine wpAny_bind ?_
      simp only [newExc, newTuple]
      refine wpAny_bind (wpAny_newObj_type ?_ (by size_fits))
      refine wpAny_bind (m := firstArgMember _ _) (wpAny_of_eq (a := Value.none) (by first | rfl | (simp only [firstArgMember]; rfl)) ?_)
      refine wpAny_newObj_type ?_ (by size_fits)
      simp only [raiseNew]
      refine wpAny_bind (wpAny_bind (wpAny_handled ?_))
      first | rw [show A.in1.handled = none from hh] | rw [hh]
      refine wpAny_throw ?_
      refine wpAny_bind (wpAny_isInstance (T := "StopIteration") (b := true) ⟨_, Heap.get?_push_size _ rfl, rfl⟩ isSubtype_stop ?_)
      refine wpAny_pure (done hn _ ⟨fun b o e p => Heap.get?_push_of_some _ (Heap.get?_push_of_some _ (hm.heap b o e p)), ?_, fun h => ?_, hm.os, hm.drawn⟩)
      · show s.gens.size ≤ (s₁.gens.setIfInBounds g _).size
        rw [Array.size_setIfInBounds]
        exact setGen_size ▸ hm.gsz
      · exact bare_set (hm.bare (bare_set h rfl)) rfl
    · obtain ⟨hV, hm, hk⟩ := hv
      refine wpAny_pure ⟨v, rfl, wpAny_pure ?_⟩
      cases n with
      | zero => exact (hk s₁ (Sm.refl fun b hb => let ⟨o, e⟩ := hal b hb; ⟨o, hm.heap b o e (.inr (.inl hb))⟩)).elim
      | succ m =>
        have hsz : g < s₁.gens.size := Nat.lt_of_lt_of_le (gens_lt hgs) (setGen_size ▸ hm.gsz)
        refine more m v _ rfl hV ⟨hm.heap, ?_, fun h => bare_set (hm.bare (bare_set h rfl)) hb, hm.os, hm.drawn⟩ ⟨?_, ha, hgx, fun b hb => let ⟨o, e⟩ := hal b hb; ⟨o, hm.heap b o e (.inr (.inl hb))⟩, gs', ?_, fun s'' hs => ?_⟩
        · rw [setGen_size]; exact setGen_size ▸ hm.gsz
        · obtain ⟨o, nm, qn, ho, hc, hd, r⟩ := hg
          refine ⟨o, nm, qn, hm.heap _ _ ho (.inl ?_), hc, hd, r⟩
          simp [priv, hc, hd]
        · simp [Shared.setGen, Array.getElem?_setIfInBounds, hsz]
        · refine hk _ ⟨hs.heap, fun i hi hlt => ?_, hs.alive, ?_⟩
          · have h1 : i ≠ g := fun q => hi (q ▸ .head _)
            rw [setGen_ne h1, hs.gens i (fun q => hi (.tail _ q)) (by rw [setGen_size]; exact hlt), setGen_ne h1]
          · rw [setGen_size]; exact setGen_size ▸ hs.gsz

/-! ## segments of a generator's body -/
section
variable {prog : Program} {w : World} {A : Around} {R : GenEnd} {Y : Protocol} {n : Nat} {s₀ : Shared} {c : Code} {fs : List Frame} {s : Shared} {env : Env}
  {K : Flow → Sem Fin} {H : Value → Sem Fin} {gd : Bool → Bool} {lv : List Value → List Value}

theorem seg_If {test : Expr} {body orelse : List Stmt} {pos : Pos}
    (h : wpAny (model prog w) (A.over c fs) (isTrue test env (eval test env)) (fun b s' => if b = true then Seg (model prog w) A R Y n s₀ c ((execs body env).wrap K H gd lv) fs s' else Seg (model prog w) A R Y n s₀ c ((execs orelse env).wrap K H gd lv) fs s') (fun _ _ => False) s) :
    Seg (model prog w) A R Y n s₀ c ((exec (.If test body orelse pos) env).wrap K H gd lv) fs s := by
  rw [exec_If]
  refine seg_at ?_
  show Seg _ A R Y n s₀ c (Sem.wrap K H gd lv (isTrue test env (eval test env) >>= _)) fs s
  rw [Sem.bind_eq_wrap', Sem.wrap_wrap]
  refine seg_wrap (wpAny_mono h (fun b s' hb => ?_) fun _ _ x => x.elim)
  cases b with
  | true => rw [if_pos rfl] at hb; exact hb
  | false => rw [if_neg Bool.false_ne_true] at hb; exact hb

theorem seg_For {target iter : Expr} {body orelse : List Stmt} {pos : Pos} (hs : ∀ x, foldedSetIterable iter env x = pure x)
    (h : wpAny (model prog w) (A.over c fs) (eval iter env) (fun xv s₁ => wpAny (model prog w) (A.over c fs) (pyIter xv) (fun it s₂ =>
      ∀ p, Seg (model prog w) A R Y n s₀ (.forLoop target it body orelse env) ((model prog w).den (.forLoop target it body orelse env))
        (.ret (fun r => ((match r with | .ok f => (.pure f : Sem Flow) | .error e => .raise e).onRaise fun (x : Value) => do
          if (← field x 1) == Value.none then unsupported "frame.own-activation:exception-without-traceback"
          setFlight x env.frame).wrap K H gd lv) none (gd false) (lv []) c p [] :: fs) s₂) (fun _ _ => False) s₁) (fun _ _ => False) s) :
    Seg (model prog w) A R Y n s₀ c ((exec (.For target iter body orelse pos) env).wrap K H gd lv) fs s := by
  rw [exec_For]
  refine seg_at ?_
  show Seg _ A R Y n s₀ c (Sem.wrap K H gd lv (eval iter env >>= fun x => foldedSetIterable iter env x >>= _)) fs s
  rw [Sem.bind_eq_wrap', Sem.wrap_wrap]
  refine seg_wrap (wpAny_mono h (fun xv s₁ h₁ => ?_) fun _ _ x => x.elim)
  rw [hs xv]
  show Seg _ A R Y n s₀ c (Sem.wrap K H gd lv (standAt iter.pos >>= _)) fs s₁
  refine seg_at ?_
  show Seg _ A R Y n s₀ c (Sem.wrap K H gd lv (holding [xv] (pyIter xv) >>= _)) fs s₁
  rw [Sem.bind_eq_wrap', Sem.wrap_wrap]
  refine seg_wrap (wpAny_holding (wpAny_mono h₁ (fun it s₂ h₂ => ?_) fun _ _ x => x.elim))
  exact seg_call h₂

theorem seg_forLoop {x : Str} {px : Pos} {it : Value} {body : List Stmt}
    (h : wpAny (model prog w) (A.over (.forLoop (.Name x px) it body [] env) fs) (pyNext it) (fun r s' => match r with
      | none => Seg (model prog w) A R Y n s₀ (.block [] env) (leafOf (.ok .next)) fs s'
      | some v => wpAny (model prog w) (A.over (.forLoop (.Name x px) it body [] env) fs) (storeName env x v) (fun _ s₂ =>
          Seg (model prog w) A R Y n s₀ (.forLoop (.Name x px) it body [] env) ((execs body env).wrap (fun f => match f with
            | .next | .cont => .pure (.again (.forLoop (.Name x px) it body [] env))
            | .brk => .pure (.done .next)
            | .ret v => .pure (.done (.ret v))) (fun e => (do noteFrame e env; theTreesLotGoes e : Sem Unit).wrap (fun _ => .raise e) .raise id id) id id) fs s₂) (fun _ _ => False) s') (fun _ _ => False) s) :
    Seg (model prog w) A R Y n s₀ (.forLoop (.Name x px) it body [] env) ((model prog w).den (.forLoop (.Name x px) it body [] env)) fs s := by
  show Seg _ A R Y n s₀ _ ((forTurn (.Name x px) it body [] env).onRaise (fun x => do noteFrame x env; theTreesLotGoes x)) fs s
  unfold forTurn
  rw [Sem.onRaise_eq_wrap]
  show Seg _ A R Y n s₀ _ (Sem.wrap _ _ _ _ (standAt _ >>= _)) fs s
  refine seg_at ?_
  show Seg _ A R Y n s₀ _ (Sem.wrap _ _ _ _ ((pyNext it).onRaise _ >>= _)) fs s
  rw [Sem.bind_eq_wrap', Sem.wrap_wrap]
  refine seg_wrap (wpAny_onRaise (wpAny_mono h (fun r s' hr => ?_) fun _ _ x => x.elim))
  cases r with
  | none =>
    refine seg_again rfl ?_
    exact hr
  | some v =>
    show Seg _ A R Y n s₀ _ (Sem.wrap _ _ _ _ (assign (.Name x px) env v >>= _)) fs s'
    rw [Sem.bind_eq_wrap', Sem.wrap_wrap]
    refine seg_wrap (wpAny_assign_Name (wpAny_mono hr (fun _ s₂ h₂ => ?_) fun _ _ x => x.elim))
    show Seg _ A R Y n s₀ _ (Sem.wrap _ _ _ _ (execs body env >>= _)) fs s₂
    rw [Sem.bind_eq_wrap', Sem.wrap_wrap]
    rw [Sem.wrap_congr (execs body env) _ _ (K' := fun f => match f with
            | .next | .cont => .pure (.again (.forLoop (.Name x px) it body [] env))
            | .brk => .pure (.done .next)
            | .ret v => .pure (.done (.ret v))) (H' := (fun e => (do noteFrame e env; theTreesLotGoes e : Sem Unit).wrap (fun _ => .raise e) .raise id id))
        (fun f => by cases f <;> rfl)
        (fun e => by first | exact Sem.bind_eq_wrap _ _ | (show (do noteFrame e env; theTreesLotGoes e : Sem Unit).bind (fun _ => .raise e) = _; rw [Sem.bind_eq_wrap]))]
    exact h₂

theorem seg_loop {x : Str} {px : Pos} {it : Value} {body : List Stmt} (N : Nat) (J : Nat → Nat → Shared → Shared → Prop) (bound : ∀ i n s₀ s, J i n s₀ s → i ≤ N)
    (turn : ∀ i n s₀ s, J i n s₀ s →
      (∀ n' s₀' s', J (i + 1) n' s₀' s' → Seg (model prog w) A R Y n' s₀' (.forLoop (.Name x px) it body [] env) ((model prog w).den (.forLoop (.Name x px) it body [] env)) fs s') →
      wpAny (model prog w) (A.over (.forLoop (.Name x px) it body [] env) fs) (pyNext it) (fun r s' => match r with
        | none => Seg (model prog w) A R Y n s₀ (.block [] env) (leafOf (.ok .next)) fs s'
        | some v => wpAny (model prog w) (A.over (.forLoop (.Name x px) it body [] env) fs) (storeName env x v) (fun _ s₂ =>
            Seg (model prog w) A R Y n s₀ (.forLoop (.Name x px) it body [] env) ((execs body env).wrap (fun f => match f with
              | .next | .cont => .pure (.again (.forLoop (.Name x px) it body [] env))
              | .brk => .pure (.done .next)
              | .ret v => .pure (.done (.ret v))) (fun e => (do noteFrame e env; theTreesLotGoes e : Sem Unit).wrap (fun _ => .raise e) .raise id id) id id) fs s₂) (fun _ _ => False) s') (fun _ _ => False) s) :
    ∀ i n s₀ s, J i n s₀ s → Seg (model prog w) A R Y n s₀ (.forLoop (.Name x px) it body [] env) ((model prog w).den (.forLoop (.Name x px) it body [] env)) fs s := by
  have main : ∀ k i n s₀ s, N - i = k → J i n s₀ s → Seg (model prog w) A R Y n s₀ (.forLoop (.Name x px) it body [] env) ((model prog w).den (.forLoop (.Name x px) it body [] env)) fs s := by
    intro k
    induction k with
    | zero =>
      intro i n s₀ s hk hJ
      exact seg_forLoop (turn i n s₀ s hJ fun n' s₀' s' hJ' => absurd (bound _ _ _ _ hJ') (by have := bound _ _ _ _ hJ; omega))
    | succ k ih =>
      intro i n s₀ s hk hJ
      exact seg_forLoop (turn i n s₀ s hJ fun n' s₀' s' hJ' => ih (i + 1) n' s₀' s' (by omega) hJ')
  exact fun i n s₀ s hJ => main _ i n s₀ s rfl hJ
end

theorem seg_loopA {prog : Program} {w : World} {A : Around} {R : GenEnd} {Y : Protocol} {n : Nat} {s₀ : Shared} {fs : List Frame} {s : Shared} {env : Env} {x : Str} {px : Pos} {it : Value} {body : List Stmt} (N : Nat)
    (h : ∀ A2, A2 = A.over (.forLoop (.Name x px) it body [] env) fs → ∃ J : Nat → Nat → Shared → Shared → Prop, (∀ i n s₀ s, J i n s₀ s → i ≤ N) ∧
      (∀ i n s₀ s, J i n s₀ s →
        (∀ n' s₀' s', J (i + 1) n' s₀' s' → Seg (model prog w) A R Y n' s₀' (.forLoop (.Name x px) it body [] env) ((model prog w).den (.forLoop (.Name x px) it body [] env)) fs s') →
        wpAny (model prog w) A2 (pyNext it) (fun r s' => match r with
          | none => Seg (model prog w) A R Y n s₀ (.block [] env) (leafOf (.ok .next)) fs s'
          | some v => wpAny (model prog w) A2 (storeName env x v) (fun _ s₂ =>
              Seg (model prog w) A R Y n s₀ (.forLoop (.Name x px) it body [] env) ((execs body env).wrap (fun f => match f with
                | .next | .cont => .pure (.again (.forLoop (.Name x px) it body [] env))
                | .brk => .pure (.done .next)
                | .ret v => .pure (.done (.ret v))) (fun e => (do noteFrame e env; theTreesLotGoes e : Sem Unit).wrap (fun _ => .raise e) .raise id id) id id) fs s₂) (fun _ _ => False) s') (fun _ _ => False) s) ∧
      J 0 n s₀ s) :
    Seg (model prog w) A R Y n s₀ (.forLoop (.Name x px) it body [] env) ((model prog w).den (.forLoop (.Name x px) it body [] env)) fs s := by
  obtain ⟨J, b, t, j⟩ := h _ rfl
  exact seg_loop N J b t 0 _ _ _ j

theorem Fr.mv {g B : Heap} {X : List Addr} {L : Addr} {m : Str → Option Value} {s s' : Shared} (F : Fr g L s.heap m) (mv : Mv B X s s') (hL : L ∈ X) (hg : ∀ b o, g.get? b = some o → (B.get? b).isSome = true) : Fr g L s'.heap m := by
  obtain ⟨o, es, ep, e, r⟩ := F.ns
  exact ⟨⟨o, es, ep, mv.heap _ _ e (.inr (.inl hL)), r⟩, fun b o e => mv.heap b o (F.keep b o e) (.inr (.inr (hg b o e))), F.above⟩
theorem ins_swap {a b : Str} (h : a ≠ b) {m : Str → Option Value} {u v w : Option Value} :
    (fun y => if y = b then v else (fun y => if y = a then u else (fun y => if y = b then w else m y) y) y) = fun y => if y = a then u else (fun y => if y = b then v else m y) y := by
  funext y
  by_cases h1 : y = a
  · subst h1; simp [h]
  · by_cases h2 : y = b
    · subst h2; simp [h1]
    · simp [h1, h2]

/-- h, but for what B does not bear -/
def cutTo (h B : Heap) : Heap := hideAll h ((List.range h.objs.size).filter fun b => (B.get? b).isNone)
theorem cutTo_size (h B : Heap) : (cutTo h B).objs.size = h.objs.size := hideAll_size _ _
theorem cutTo_of {h B : Heap} {b : Addr} {o : Obj} (e : (cutTo h B).get? b = some o) : h.get? b = some o ∧ (B.get? b).isSome = true := by
  have e' := of_hideAll _ e
  refine ⟨e', ?_⟩
  cases q : B.get? b with
  | some _ => rfl
  | none =>
    have hm : b ∈ (List.range h.objs.size).filter fun b => (B.get? b).isNone := List.mem_filter.mpr ⟨List.mem_range.mpr (Heap.lt_size e'), by rw [q]; rfl⟩
    rw [cutTo, hideAll_none _ hm] at e
    cases e
theorem cutTo_up {h B : Heap} (u : B.StaysIn h) : B.StaysIn (cutTo h B) := fun b o e => hideAll_get _ (u b o e) fun hm => by
  have := (List.mem_filter.mp hm).2
  rw [e] at this; cases this
theorem cutTo_some {h B : Heap} (u : B.StaysIn h) {b : Addr} {o : Obj} (e : (cutTo h B).get? b = some o) : B.get? b = some o := by
  obtain ⟨e1, e2⟩ := cutTo_of e
  obtain ⟨o', e3⟩ := Option.isSome_iff_exists.mp e2
  rw [e3, ← e1]; exact (u _ _ e3).symm

theorem enterG {w : World} {A : Around} {R : Result → Shared → Prop} {s : Shared} {f : Addr} {args : Args} {binds : List (Str × Value)} {K : Frag}
    {name qual : Str} {params : Arguments} {body : List Stmt} {scope : Scope} {dV kV doc pm cdv ct oc : Value} {an od : Option Addr} {osl : Array (Option Value)}
    (X : K.In s.heap) (hlim : s.heap.NoLimit) (ho : K.lookup f = some ⟨oc, od, .func (fnOf name qual params body scope dV kV doc pm an cdv ct), osl⟩) (hcd : codeIn K cdv qual = true) (hroom : A.depth < recursionLimit)
    (hbind : BindsTo s (fnOf name qual params body scope dV kV doc pm an cdv ct) args binds) (hloc : ∀ y ∈ binds, scope.names.lookup y.1 = some .local)
    (h : ∀ h₁ ob tk, h₁.Ns s.heap.objs.size (fun y => binds.reverse.lookup y) → s.heap.StaysIn h₁ → h₁.objs.size = s.heap.objs.size + 1 → (h₁.push ob).IsGen h₁.objs.size s.gens.size → priv ob = false →
      R (.ok (.ret (.ref h₁.objs.size))) { s with gens := s.gens.push (.fresh (.func body (envOf qual scope s.heap.objs.size f cdv))), toks := tk, heap := h₁.push ob })
    (hco : scope.isCoroutine = false := by exact rfl) (hgen : scope.isGenerator = true := by exact rfl) (hk : scope.kind = .function := by exact rfl)
    (hcell : ∀ x ∈ scope.names, x.2 ≠ .cell := by decide) : codeAny (model prog w) A (.call (.ref f) args) R s := by
  refine codeAny_call_generator (fd := fnOf name qual params body scope dV kV doc pm an cdv ct) (body := body) hroom (X _ _ ho) rfl hco hgen rfl (codeRec_of X hcd) (hbind _ _ _ _ ?_)
  refine wpAny_newFunctionEnv hcell hloc (fun h₁ hns hsb => ?_) hk
  have hst : s.heap.StaysIn h₁ := fun b o e => hsb.extBut b o (Nat.ne_of_lt (Heap.lt_size e)) (Heap.get?_push_of_some _ e)
  refine ⟨hlim.keeps hst, ?_⟩
  exact h h₁ _ _ hns hst (by rw [hsb.1, Heap.size_push]) ⟨_, _, _, Heap.get?_push_size _ rfl, rfl, rfl, rfl⟩ rfl
end
noncomputable section
/-! ## comprehensions -/
abbrev compTest (ifs : List Expr) (cenv : Env) : Sem Bool := forIn ifs true fun c r => if r = true then do let ok ← isTrue c cenv (eval c cenv); pure (ForInStep.yield ok) else pure (ForInStep.yield r)

theorem nameC_L {M : Model} {A : Around} {E : Value → Shared → Prop} {s : Shared} {g : Heap} {C : Addr} {m : Str → Option Value} {scope : Scope} {cl : List (Str × Addr)} {env : Env} {x : Str} {pos : Pos} {v : Value} {Q : Value → Shared → Prop}
    (F : Fr g C s.heap m) (hv : m x = some v) (h : Q v s) (hk : (compEnvC scope cl C env).scope.kind = .function) (hx : (compEnvC scope cl C env).kindOf x = some .local) (hd : (x == ("__debug__" : Str)) = false := by decide) :
    wpAny M A (eval (.Name x pos) (compEnvC scope cl C env)) Q E s := wpAny_Name (wpAny_loadName_local hk hx F.ns hv h) hd
theorem nameC_cell {M : Model} {A : Around} {E : Value → Shared → Prop} {s : Shared} {g : Heap} {C c : Addr} {o : Obj} {m : Str → Option Value} {scope : Scope} {cl : List (Str × Addr)} {env : Env} {x : Str} {pos : Pos} {v : Value} {Q : Value → Shared → Prop}
    (F : Fr g C s.heap m) (hc : cl.lookup x = some c) (hm : g.get? c = some o) (hd : o.data = .cell (some v)) (h : Q v s)
    (hk : (compEnvC scope cl C env).scope.kind = .function) (hx : (compEnvC scope cl C env).kindOf x = some .cell) (hb : (x == ("__debug__" : Str)) = false := by decide) :
    wpAny M A (eval (.Name x pos) (compEnvC scope cl C env)) Q E s := wpAny_Name (wpAny_loadName_cell hk hx hc ⟨o, F.keep _ _ hm, hd⟩ h) hb
theorem nameC_G {M : Model} {A : Around} {E : Value → Shared → Prop} {s : Shared} {K : Frag} {g : Heap} {C : Addr} {m mg mb : Str → Option Value} {p : Program} {loose : List Str} {mean : ExcName → Option Value} {scope : Scope} {cl : List (Str × Addr)} {env : Env} {x : Str} {pos : Pos} {v : Value} {Q : Value → Shared → Prop}
    (F : Fr g C s.heap m) (X : K.In g) (T : Top p loose mean mg mb g) (e : nsIn K mainGlobals x = some (some v)) (h : Q v s) (hg : env.globals = mainGlobals)
    (hk : (compEnvC scope cl C env).scope.kind = .function) (hx : (compEnvC scope cl C env).kindOf x = some .globalImplicit) (hd : (x == ("__debug__" : Str)) = false := by decide) :
    wpAny M A (eval (.Name x pos) (compEnvC scope cl C env)) Q E s :=
  Name_function_global hk hx (loadGlobal_global (env := compEnvC scope cl C env) (by show s.heap.Ns env.globals mg; rw [hg]; exact T.g.keeps F.keep) (mg_of X T.g e) h) hd

section
variable {w : World} {A : Around} {E : Value → Shared → Prop} {s : Shared} {env : Env}

/-- the loop of a list comprehension with one clause -/
theorem compLoopK {R : Result → Shared → Prop} {elt iter : Expr} {x : Str} {px : Pos} {ifs : List Expr} {scope : Scope} {pos : Pos} {g : Heap} {m₀ : Str → Option Value} {cs₀ : List (Addr × Obj)} {cenv : Env}
    {I D' : Addr} {fp : List Addr} {n : Nat} {P : Nat → Value → Prop} {St : Nat → Heap → Prop}
    (F : Fr g cenv.locals s.heap m₀) (N : News g cenv.locals s.heap ((D', W.listOf #[] 0) :: cs₀)) (Wk : Walks prog w A I fp [I] n P St) (hobj : ∀ i h, St i h → ∃ o, h.get? I = some o)
    (hx : cenv.kindOf x = some .local) (hp : (cenv.scope.kind == .class || (cenv.scope.kind == .module && cenv.locals != cenv.globals)) = false)
    (hfL : cenv.locals ∉ fp) (hfD : D' ∉ fp) (hI : g.get? I = none) (hst : St 0 s.heap)
    (J : Nat → (Str → Option Value) → List Value → List (Addr × Obj) → Prop) (h0 : J 0 m₀ [] cs₀) (hJI : ∀ p ∈ cs₀, p.1 ≠ I ∧ p.1 ≠ D') (hn : n ≤ 1000000)
    (turn : ∀ i v m acc ep cs h tk oI, i < n → P i v → J i m acc cs → acc.length ≤ i → (∀ p ∈ cs, p.1 ≠ I ∧ p.1 ≠ D') → Fr g cenv.locals h (fun y => if y = x then some v else m y) → News g cenv.locals h ((I, oI) :: (D', W.listOf acc.toArray ep) :: cs) → St (i + 1) h →
      wpAny (model prog w) A (compTest ifs cenv) (fun ok s₃ => if ok = true then wpAny (model prog w) A (eval elt cenv) (fun y s₄ =>
          Stop (∃ h' tk' m' cs', s₄ = { s with heap := h', toks := tk' } ∧ Fr g cenv.locals h' m' ∧ News g cenv.locals h' ((I, oI) :: (D', W.listOf acc.toArray ep) :: cs') ∧ (∀ p ∈ cs', p.1 ≠ I ∧ p.1 ≠ D') ∧ (∀ b ∈ fp, b ≠ I → ∀ o, h.get? b = some o → h'.get? b = some o) ∧ J (i + 1) m' (acc ++ [y]) cs')) (fun _ _ => False) s₃
        else Stop (∃ h' tk' m' cs', s₃ = { s with heap := h', toks := tk' } ∧ Fr g cenv.locals h' m' ∧ News g cenv.locals h' ((I, oI) :: (D', W.listOf acc.toArray ep) :: cs') ∧ (∀ p ∈ cs', p.1 ≠ I ∧ p.1 ≠ D') ∧ (∀ b ∈ fp, b ≠ I → ∀ o, h.get? b = some o → h'.get? b = some o) ∧ J (i + 1) m' acc cs')) (fun _ _ => False) { s with heap := h, toks := tk })
    (done : ∀ m acc ep cs h tk, J n m acc cs → acc.length ≤ n → (∀ p ∈ cs, p.1 ≠ I ∧ p.1 ≠ D') → Fr g cenv.locals h m → News g cenv.locals h ((D', W.listOf acc.toArray ep) :: cs) → R (.ok .next) { s with heap := h, toks := tk }) :
    codeAny (model prog w) A (.compLoop (.ListComp elt [⟨.Name x px, iter, ifs, 0⟩] scope pos) 0 (.ref I) (.ref D') cenv) R s := by
  have hDI : D' ≠ I := fun q => hfD (q ▸ Wk.sub I (.head _))
  have hIL : cenv.locals ≠ I := fun q => hfL (q ▸ Wk.sub I (.head _))
  refine codeAny_compLoop_tests (fun k s' => ∃ i h tk m acc ep cs, s' = { s with heap := h, toks := tk } ∧ i ≤ n ∧ k = n + 1 - i ∧ acc.length ≤ i ∧ St i h ∧ Fr g cenv.locals h m ∧ News g cenv.locals h ((D', W.listOf acc.toArray ep) :: cs) ∧ (∀ p ∈ cs, p.1 ≠ I ∧ p.1 ≠ D') ∧ J i m acc cs) ?_ (n + 1)
    ⟨0, s.heap, s.toks, m₀, [], 0, cs₀, rfl, Nat.zero_le _, rfl, Nat.le_refl _, hst, F, N, hJI, h0⟩
  rintro k s' ⟨i, h, tk, m, acc, ep, cs, rfl, hi, rfl, hac, hst', F', N', hcI, hJ⟩
  have kpN : ∀ {h₁ : Heap}, (∀ b o, b ∉ [I] → h.get? b = some o → h₁.get? b = some o) → Fr g cenv.locals h₁ m ∧ News g cenv.locals h₁ ((D', W.listOf acc.toArray ep) :: cs) := fun {h₁} kk =>
    ⟨Fr.kp F' (W := [I]) kk (by simpa using hIL) (by simpa using hI), News.kp N' (W := [I]) kk fun p hp => by
      rcases List.mem_cons.mp hp with rfl | hp
      · simpa using hDI
      · simpa using (hcI p hp).1⟩
  by_cases hlt : i < n
  · refine Wk.item i _ _ _ hlt hst' fun v h₁ tk₁ hPv hst₁ hk₁ => ?_
    obtain ⟨F₁, N₁⟩ := kpN hk₁
    obtain ⟨oI, hoI⟩ := hobj _ _ hst₁
    have N₁' : News g cenv.locals h₁ ((I, oI) :: (D', W.listOf acc.toArray ep) :: cs) := fun p hp => by
      rcases List.mem_cons.mp hp with rfl | hp
      · exact ⟨hoI, Ne.symm hIL, hI⟩
      · exact N₁ p hp
    refine wpAny_assign_Name (wpAny_storeName_local hx F₁.ns (fun h₂ hn₂ hs₂ => ?_) hp)
    have hst₂ : St (i + 1) h₂ := Wk.frame _ _ _ hst₁ fun b hb o e => hs₂.extBut b o (fun q => hfL (q ▸ hb)) e
    have hI₂ : h₂.get? I = some oI := hs₂.extBut I oI (Ne.symm hIL) hoI
    have stI : ∀ {h' : Heap} {ep' : Nat} {acc' : List Value} {cs' : List (Addr × Obj)}, News g cenv.locals h' ((I, oI) :: (D', W.listOf acc'.toArray ep') :: cs') → (∀ b ∈ fp, b ≠ I → ∀ o, h₂.get? b = some o → h'.get? b = some o) → St (i + 1) h' :=
      fun {h' ep' acc' cs'} N₃ hf => Wk.frame _ _ _ hst₂ fun b hb o e => by
        by_cases q : b = I
        · subst q
          rw [hI₂] at e; cases e
          exact (N₃ (b, oI) (.head _)).1
        · exact hf b hb q o e
    refine wpAny_mono (turn i v m acc ep cs h₂ _ oI hlt hPv hJ hac hcI (F₁.set hn₂ hs₂) (N₁'.set hs₂) hst₂) (fun ok s₃ h₃ => ?_) fun _ _ e => e.elim
    cases ok with
    | false =>
      rw [if_neg Bool.false_ne_true] at h₃ ⊢
      obtain ⟨h', tk', m', cs', rfl, F₃, N₃, hcI', hf, hJ'⟩ := h₃
      exact ⟨n + 1 - (i + 1), by omega, i + 1, h', tk', m', acc, ep, cs', rfl, hlt, rfl, Nat.le_succ_of_le hac, stI N₃ hf, F₃, News.sub N₃ (fun p hp => .tail _ hp), hcI', hJ'⟩
    | true =>
      rw [if_pos rfl] at h₃ ⊢
      refine wpAny_mono h₃ (fun y s₄ h₄ => ?_) fun _ _ e => e.elim
      obtain ⟨h', tk', m', cs', rfl, F₃, N₃, hcI', hf, hJ'⟩ := h₄
      refine append_at (hsz := by rw [List.size_toArray, sizeLine_eq]; omega) (N₃ (D', W.listOf acc.toArray ep) (.tail _ (.head _))).1 fun h₅ hs₅ ho₅ => ?_
      have hD5 : ∀ b o, b ≠ D' → h'.get? b = some o → h₅.get? b = some o := fun b o n e => hs₅.extBut b o n e
      have F₅ : Fr g cenv.locals h₅ m' := F₃.change hs₅ (N₃ (D', W.listOf acc.toArray ep) (.tail _ (.head _))).2.1 (N₃ (D', W.listOf acc.toArray ep) (.tail _ (.head _))).2.2
      have N₅ : News g cenv.locals h₅ ((I, oI) :: (D', W.listOf (acc.toArray.push y) (ep + 1)) :: cs') :=
        news_set (pre := [(I, oI)]) N₃ (fun p hp => by rw [List.mem_singleton.mp hp]; exact Ne.symm hDI) (fun p hp => (hcI' p hp).2) hs₅ ho₅
      rw [List.push_toArray] at N₅
      exact ⟨n + 1 - (i + 1), by omega, i + 1, h₅, _, m', acc ++ [y], ep + 1, cs', rfl, hlt, rfl, by rw [List.length_append]; exact Nat.succ_le_succ hac,
        stI N₅ (fun b hb nI o e => hD5 b o (fun q => hfD (q ▸ hb)) (hf b hb nI o e)), F₅, News.sub N₅ (fun p hp => .tail _ hp), hcI', hJ'⟩
  · have hin : i = n := by omega
    subst hin
    refine Wk.done _ _ _ hst' fun h₁ tk₁ hk₁ => ?_
    obtain ⟨F₁, N₁⟩ := kpN hk₁
    exact done m acc ep cs h₁ tk₁ hJ hac hcI F₁ N₁

/-- what is to be shown behind the source of a one-clause list comprehension over a list -/
inductive ListGo (w : World) (A : Around) (env : Env) (scope : Scope) (cl : List (Str × Addr)) (elt : Expr) (x : Str) (ifs : List Expr) (Q : Value → Shared → Prop) (xv : Value) (s₁ : Shared) : Prop
  | mk (c : Addr) (items : Array Value) (f19 : xv = .ref c) (f29 : s₁.heap.IsList c items) (f39 : items.size ≤ 1000000) (J : Addr → Addr → Addr → Nat → (Str → Option Value) → List Value → List (Addr × Obj) → Prop) (f49 : (∀ I D' C, I = s₁.heap.objs.size → D' = I + 1 → C = D' + 1 → J I D' C 0 (fun _ => none) [] [])) (f59 : (∀ I D' C i v m acc ep cs h tk oI, I = s₁.heap.objs.size → D' = I + 1 → C = D' + 1 → items[i]? = some v → J I D' C i m acc cs → acc.length ≤ i → (∀ p ∈ cs, p.1 ≠ I ∧ p.1 ≠ D') →
      Fr s₁.heap C h (fun y => if y = x then some v else m y) → News s₁.heap C h ((I, oI) :: (D', W.listOf acc.toArray ep) :: cs) →
      wpAny (model prog w) A (compTest ifs (compEnvC scope cl C env)) (fun ok s₃ => if ok = true then wpAny (model prog w) A (eval elt (compEnvC scope cl C env)) (fun y s₄ =>
          Stop (∃ h' tk' m' cs', s₄ = { s₁ with heap := h', toks := tk' } ∧ Fr s₁.heap C h' m' ∧ News s₁.heap C h' ((I, oI) :: (D', W.listOf acc.toArray ep) :: cs') ∧ (∀ p ∈ cs', p.1 ≠ I ∧ p.1 ≠ D') ∧ J I D' C (i + 1) m' (acc ++ [y]) cs')) (fun _ _ => False) s₃
        else Stop (∃ h' tk' m' cs', s₃ = { s₁ with heap := h', toks := tk' } ∧ Fr s₁.heap C h' m' ∧ News s₁.heap C h' ((I, oI) :: (D', W.listOf acc.toArray ep) :: cs') ∧ (∀ p ∈ cs', p.1 ≠ I ∧ p.1 ≠ D') ∧ J I D' C (i + 1) m' acc cs')) (fun _ _ => False) { s₁ with heap := h, toks := tk })) (f69 : (∀ I D' C m acc ep cs h' tk, I = s₁.heap.objs.size → D' = I + 1 → C = D' + 1 → J I D' C items.size m acc cs → acc.length ≤ items.size → s₁.heap.StaysIn h' → h'.get? D' = some (W.listOf acc.toArray ep) → s₁.heap.get? D' = none →
      (∀ p ∈ cs, h'.get? p.1 = some p.2 ∧ p.1 ≠ D' ∧ s₁.heap.get? p.1 = none) → Q (.ref D') { s₁ with heap := h', toks := tk })) : ListGo w A env scope cl elt x ifs Q xv s₁
theorem eval_listComp {elt iter : Expr} {x : Str} {px : Pos} {ifs : List Expr} {scope : Scope} {cl : List (Str × Addr)} {pos : Pos} {Q : Value → Shared → Prop} (hh : A.handled = none)
    (hclos : closureFor scope env = pure cl) (hcell : ∀ y ∈ scope.names, y.2 ≠ .cell) (hkind : scope.kind = .function)
    (hnames : ∀ y ∈ scope.names, y.2 = .local → scope.names.lookup y.1 = some .local) (hx : scope.names.lookup x = some .local)
    (h : wpAny (model prog w) A (eval iter env) (fun xv s₁ => Stop (ListGo w A env scope cl elt x ifs Q xv s₁)) (fun _ _ => False) s)
    (hs : ∀ x, foldedSetIterable iter env x = pure x := by intro _; rfl) :
    wpAny (model prog w) A (eval (.ListComp elt [⟨.Name x px, iter, ifs, 0⟩] scope pos) env) Q E s := by
  rw [eval_ListComp]
  refine wpAny_comprehension_free (use := none) rfl hs hclos hkind hnames (wpAny_mono h (fun xv s₁ h₁ => ?_) fun _ _ e => e.elim)
  obtain ⟨c, items, rfl, hl, hsz, J, h0, turn, done⟩ := h₁
  obtain ⟨oc, hoc, _⟩ := id hl
  have hcI : c < s₁.heap.objs.size := Heap.lt_size hoc
  refine wpAny_pyIter_list hl ?_
  generalize hH1 : s₁.heap.push { cls := .type "list_iterator", data := .fields #[.ref c, .int 0 0] } = H1
  have sz1 : H1.objs.size = s₁.heap.objs.size + 1 := by rw [← hH1, Heap.size_push]
  refine wpAny_newObj_type (hd := by size_fits) (wpAny_newFunctionEnv hcell (by intro y hy; simp at hy) (fun h₁ hns₁ hsb₁ => ?_) hkind)
  dsimp only at hns₁ hsb₁ ⊢
  generalize hH2 : H1.push { cls := .type "list", dict := none, data := .seq ([] : List Value).toArray } = H2 at hns₁ hsb₁ ⊢
  have sz2 : H2.objs.size = s₁.heap.objs.size + 1 + 1 := by rw [← hH2, Heap.size_push, sz1]
  have st1 : s₁.heap.StaysIn h₁ := fun b o e => hsb₁.extBut b o (by have := Heap.lt_size e; rw [sz2]; exact Nat.ne_of_lt (Nat.lt_succ_of_lt (Nat.lt_succ_of_lt this))) (Heap.get?_push_of_some _ (hH2 ▸ Heap.get?_push_of_some _ (hH1 ▸ Heap.get?_push_of_some _ e)))
  have hI1 : h₁.IsListIter s₁.heap.objs.size c 0 := ⟨_, hsb₁.extBut _ _ (by rw [sz2]; refine neN ?_; omega) (Heap.get?_push_of_some _ (hH2 ▸ Heap.get?_push_of_some _ (hH1 ▸ Heap.get?_push_size _ rfl))), rfl, rfl⟩
  have hD1 : h₁.get? (s₁.heap.objs.size + 1) = some (W.listOf #[] 0) := by
    have := hsb₁.extBut (s₁.heap.objs.size + 1) _ (by rw [sz2]; refine neN ?_; omega) (Heap.get?_push_of_some _ (hH2 ▸ (sz1 ▸ Heap.get?_push_size H1 (o := { cls := .type "list", dict := none, data := .seq ([] : List Value).toArray }) rfl)))
    exact this
  have fresh : ∀ a, s₁.heap.objs.size ≤ a → s₁.heap.get? a = none := fun a ha => by
    cases e : s₁.heap.get? a with
    | none => rfl
    | some o' => exact absurd (Heap.lt_size e) (Nat.not_lt.mpr ha)
  have F0 : Fr s₁.heap H2.objs.size h₁ (fun _ => none) := ⟨hns₁, st1, by rw [sz2]; omega⟩
  have N0 : News s₁.heap H2.objs.size h₁ [(s₁.heap.objs.size + 1, W.listOf #[] 0)] := fun p hp => by
    rw [List.mem_singleton.mp hp]
    exact ⟨hD1, by rw [sz2]; exact Nat.ne_of_lt (Nat.lt_succ_self _), fresh _ (Nat.le_succ _)⟩
  have loop : ∀ s₃ : Shared, s₃ = { s₁ with heap := h₁, toks := s₁.toks } → 
      codeAny (model prog w) A (.compLoop (.ListComp elt [⟨.Name x px, iter, ifs, 0⟩] scope pos) 0 (.ref s₁.heap.objs.size) (.ref H1.objs.size) (compEnvC scope cl H2.objs.size env))
        (compPost (model prog w) A E none Q (.ref H1.objs.size) H2.objs.size) s₃ := by
    rintro s₃ rfl
    rw [sz1]
    refine compLoopK (s := { s₁ with heap := h₁ }) (cenv := compEnvC scope cl H2.objs.size env) F0 N0 (Walks.list hh s₁.heap.objs.size c (Nat.ne_of_lt hcI) items) (fun i h st => let ⟨o, ho, _⟩ := st.1; ⟨o, ho⟩)
      (lookup_relabel_local hx) (by simp [compEnvC, relabel, hkind]) ?_ ?_ (fresh _ (Nat.le_refl _)) ⟨hI1, isList_keeps hl st1⟩
      (fun i m acc cs => J s₁.heap.objs.size (s₁.heap.objs.size + 1) H2.objs.size i m acc cs) (h0 _ _ _ rfl rfl sz2) (fun _ q => nomatch q) hsz ?_ ?_
    · intro hm
      have hm' : H2.objs.size = s₁.heap.objs.size ∨ H2.objs.size = c := by simpa [compEnvC] using hm
      rw [sz2] at hm'
      rcases hm' with q | q
      · exact absurd q (neN (by omega))
      · exact absurd q (neN (by have := ltN hcI; omega))
    · intro hm
      have hm' : s₁.heap.objs.size + 1 = s₁.heap.objs.size ∨ s₁.heap.objs.size + 1 = c := by simpa using hm
      rcases hm' with q | q
      · exact absurd q (neN (by omega))
      · exact absurd q (neN (by have := ltN hcI; omega))
    · intro i v m acc ep cs h tk oI hi hv hJ hac hc F N st
      refine wpAny_mono (turn _ _ _ i v m acc ep cs h tk oI rfl rfl sz2 hv hJ hac hc F N) (fun ok s₃ h₃ => ?_) fun _ _ e => e
      have keepc : ∀ {h' : Heap} {m' : Str → Option Value}, Fr s₁.heap H2.objs.size h' m' → ∀ b ∈ [s₁.heap.objs.size, c], b ≠ s₁.heap.objs.size → ∀ o, h.get? b = some o → h'.get? b = some o := fun {h' m'} F' b hb n o e => by
        rcases List.mem_cons.mp hb with q | hb
        · exact absurd q n
        · rw [List.mem_singleton.mp hb] at e ⊢
          have := F.keep _ _ hoc
          rw [e] at this; cases this
          exact F'.keep _ _ hoc
      cases ok with
      | false =>
        rw [if_neg Bool.false_ne_true] at h₃ ⊢
        obtain ⟨h', tk', m', cs', e, a, b, d, j⟩ := h₃
        exact ⟨h', tk', m', cs', e, a, b, d, keepc a, j⟩
      | true =>
        rw [if_pos rfl] at h₃ ⊢
        refine wpAny_mono h₃ (fun y s₄ h₄ => ?_) fun _ _ e => e
        obtain ⟨h', tk', m', cs', e, a, b, d, j⟩ := h₄
        exact ⟨h', tk', m', cs', e, a, b, d, keepc a, j⟩
    · intro m acc ep cs h tk hJ hac hcs F N
      refine ⟨m, F.ns, fun h' hs' => ?_⟩
      have hDC : s₁.heap.objs.size + 1 ≠ H2.objs.size := by rw [sz2]; exact Nat.ne_of_lt (Nat.lt_succ_self _)
      refine done _ _ _ m acc ep cs h' tk rfl rfl sz2 hJ hac (fun b o e => hs'.extBut b o (by have := ltN (Heap.lt_size e); rw [sz2]; refine neN ?_; omega) (F.keep b o e)) (hs'.extBut _ _ hDC (N _ (.head _)).1) (fresh _ (Nat.le_succ _)) fun p hp => ?_
      have hp' := N p (.tail _ hp)
      exact ⟨hs'.extBut _ _ hp'.2.1 hp'.1, (hcs p hp).2, hp'.2.2⟩
  exact codeAny_compStart_list (loop _ rfl) (wpAny_pyIter_listiter hI1 (loop _ rfl))

/-! two clauses -/
theorem comp2_outer {R : Result → Shared → Prop} {elt it1 it2 : Expr} {x y : Str} {px py : Pos} {scope : Scope} {pos : Pos} {it acc : Value} {cenv : Env} (I : Nat → Shared → Prop)
    (hs : ∀ x, foldedSetIterable it2 cenv x = pure x)
    (turn : ∀ n s, I n s → wpAny (model prog w) A (pyNext it) (fun r s₁ => match r with
      | none => R (.ok .next) s₁
      | some v => wpAny (model prog w) A (assign (.Name x px) cenv v) (fun _ s₂ => wpAny (model prog w) A (eval it2 cenv) (fun xv s₃ => wpAny (model prog w) A (pyIter xv) (fun it' s₄ =>
          codeAny (model prog w) A (.compStart (.ListComp elt [⟨.Name x px, it1, [], 0⟩, ⟨.Name y py, it2, [], 0⟩] scope pos) 1 it' acc cenv) (fun r s' => match r with | .ok _ => ∃ m, m < n ∧ I m s' | .error _ => False) s₄) (fun _ _ => False) s₃) (fun _ _ => False) s₂) (fun _ _ => False) s₁) (fun _ _ => False) s)
    (n : Nat) (h : I n s) : codeAny (model prog w) A (.compLoop (.ListComp elt [⟨.Name x px, it1, [], 0⟩, ⟨.Name y py, it2, [], 0⟩] scope pos) 0 it acc cenv) R s := by
  refine codeAny_loop rfl I (fun n s hI => ?_) n h
  show wpAny _ A ((compTurn (.ListComp elt [⟨.Name x px, it1, [], 0⟩, ⟨.Name y py, it2, [], 0⟩] scope pos) 0 it acc cenv).onRaise (fun x => do noteFrame x cenv; theTreesLotGoes x)) _ _ s
  refine wpAny_noted ?_
  show wpAny _ A (standAt it1.pos >>= fun _ => pyNext it >>= _) _ _ s
  refine wpAny_bind (wpAny_standAt (wpAny_bind (wpAny_mono (turn n s hI) (fun r s₁ h₁ => ?_) fun _ _ h' => h'.elim)))
  cases r with
  | none => exact wpAny_pure h₁
  | some v =>
    refine wpAny_bind (m := letOwnedTupleGo (.Name x px) it v) (wpAny_pure ?_)
    refine wpAny_bind (wpAny_mono h₁ (fun _ s₂ h₂ => ?_) fun _ _ h' => h'.elim)
    show wpAny _ A (eval it2 cenv >>= fun xv => standAt it2.pos >>= fun _ => foldedSetIterable it2 cenv xv >>= _) _ _ s₂
    refine wpAny_bind (wpAny_mono h₂ (fun xv s₃ h₃ => ?_) fun _ _ h' => h'.elim)
    refine wpAny_bind (wpAny_standAt (wpAny_bind (wpAny_of_eq (hs xv) ?_)))
    refine wpAny_bind (wpAny_holding (wpAny_mono h₃ (fun it' s₄ h₄ => ?_) fun _ _ h' => h'.elim))
    refine wpAny_bind (wpAny_runOwn (codeAny_mono h₄ fun r s' hr => ?_))
    cases r with
    | ok f => exact wpAny_pure ⟨rfl, hr⟩
    | error e => exact hr.elim
theorem comp2_start {R : Result → Shared → Prop} {elt it1 it2 : Expr} {x y : Str} {px py : Pos} {scope : Scope} {pos : Pos} {it acc : Value} {cenv : Env}
    (h : codeAny (model prog w) A (.compLoop (.ListComp elt [⟨.Name x px, it1, [], 0⟩, ⟨.Name y py, it2, [], 0⟩] scope pos) 1 it acc cenv) R s)
    (hself : ∀ (Q' : Value → Shared → Prop) E', Q' it s → wpAny (model prog w) A (pyIter it) Q' E' s) :
    codeAny (model prog w) A (.compStart (.ListComp elt [⟨.Name x px, it1, [], 0⟩, ⟨.Name y py, it2, [], 0⟩] scope pos) 1 it acc cenv) R s := by
  refine codeAny_of_tree ?_
  show wpAny _ _ ((compStart (.ListComp elt [⟨.Name x px, it1, [], 0⟩, ⟨.Name y py, it2, [], 0⟩] scope pos) 1 it acc cenv).onRaise (fun x => do noteFrame x cenv; standAt theWindowsPlace)) _ _ s
  refine wpAny_notedAt ?_
  unfold compStart
  show wpAny _ _ (ask >>= _) _ _ s
  refine wpAny_bind (wpAny_askSetting (wpAny_ite ?_))
  have h' : wpAny (model prog w) A (pyIter it) (fun it' s' => codeAny (model prog w) A (.compLoop (.ListComp elt [⟨.Name x px, it1, [], 0⟩, ⟨.Name y py, it2, [], 0⟩] scope pos) 1 it' acc cenv) R s') (notedBy (model prog w) A cenv fun x s' => R (.error x) s') s := hself _ _ h
  split
  · first
      | exact wpAny_bind (wpAny_pure (wpAny_pure (And.intro rfl h)))
      | exact wpAny_pure (And.intro rfl h)
  · first
      | exact wpAny_bind (wpAny_rule (wpAny_bind (wpAny_standAt (wpAny_bind (wpAny_mono h' (fun it' s' h' => wpAny_pure (And.intro rfl h')) fun _ _ x => x)))))
      | (refine wpAny_bind (wpAny_rule ?_); show wpAny _ _ (standAt it2.pos >>= _) _ _ s; exact wpAny_bind (wpAny_standAt (wpAny_bind (wpAny_mono h' (fun it' s' h' => wpAny_pure (And.intro rfl h')) fun _ _ x => x))))
theorem comp2_inner {R : Result → Shared → Prop} {elt it1 it2 : Expr} {x y : Str} {px py : Pos} {scope : Scope} {pos : Pos} {it acc : Value} {cenv : Env} (I : Nat → Shared → Prop)
    (turn : ∀ n s, I n s → wpAny (model prog w) A (pyNext it) (fun r s₁ => match r with
      | none => R (.ok .next) s₁
      | some v => wpAny (model prog w) A (assign (.Name y py) cenv v) (fun _ s₂ => wpAny (model prog w) A (eval elt cenv) (fun xv s₃ => wpAny (model prog w) A (call (.builtin "list.append") [acc, xv]) (fun _ s₄ => ∃ m, m < n ∧ I m s₄) (fun _ _ => False) s₃) (fun _ _ => False) s₂) (fun _ _ => False) s₁) (fun _ _ => False) s)
    (n : Nat) (h : I n s) : codeAny (model prog w) A (.compLoop (.ListComp elt [⟨.Name x px, it1, [], 0⟩, ⟨.Name y py, it2, [], 0⟩] scope pos) 1 it acc cenv) R s := by
  refine codeAny_loop rfl I (fun n s hI => ?_) n h
  show wpAny _ A ((compTurn (.ListComp elt [⟨.Name x px, it1, [], 0⟩, ⟨.Name y py, it2, [], 0⟩] scope pos) 1 it acc cenv).onRaise (fun x => do noteFrame x cenv; theTreesLotGoes x)) _ _ s
  refine wpAny_noted ?_
  show wpAny _ A (standAt it2.pos >>= fun _ => pyNext it >>= _) _ _ s
  refine wpAny_bind (wpAny_standAt (wpAny_bind (wpAny_mono (turn n s hI) (fun r s₁ h₁ => ?_) fun _ _ h' => h'.elim)))
  cases r with
  | none => exact wpAny_pure h₁
  | some v =>
    refine wpAny_bind (m := letOwnedTupleGo (.Name y py) it v) (wpAny_pure ?_)
    refine wpAny_bind (wpAny_mono h₁ (fun _ s₂ h₂ => ?_) fun _ _ h' => h'.elim)
    show wpAny _ A ((eval elt cenv >>= fun xv => call (.builtin "list.append") [acc, xv] >>= fun _ => pure ()) >>= _) _ _ s₂
    refine wpAny_bind (wpAny_bind (wpAny_mono h₂ (fun xv s₃ h₃ => ?_) fun _ _ h' => h'.elim))
    exact wpAny_bind (wpAny_mono h₃ (fun _ s₄ h₄ => wpAny_pure (wpAny_pure ⟨rfl, h₄⟩)) fun _ _ h' => h'.elim)
end
end
noncomputable section
section
variable {w : World} {A : Around} {E : Value → Shared → Prop} {s : Shared} {env : Env}

/-- the inner loop of a comprehension «y for x in .. for y in ..» -/
theorem compInnerK {R : Result → Shared → Prop} {it1 it2 : Expr} {x y : Str} {px py pe : Pos} {scope : Scope} {pos : Pos} {g : Heap} {m₀ : Str → Option Value} {cs₀ : List (Addr × Obj)} {cenv : Env}
    {I D' r : Addr} {vs acc : List Value} {ep₀ : Nat} (hh : A.handled = none)
    (F : Fr g cenv.locals s.heap m₀) (N : News g cenv.locals s.heap ((D', W.listOf acc.toArray ep₀) :: cs₀))
    (hk : cenv.scope.kind = .function) (hx : cenv.kindOf y = some .local) (hp : (cenv.scope.kind == .class || (cenv.scope.kind == .module && cenv.locals != cenv.globals)) = false) (hb : (y == ("__debug__" : Str)) = false)
    (hLI : cenv.locals ≠ I) (hLr : cenv.locals ≠ r) (hDI : D' ≠ I) (hDr : D' ≠ r) (hrI : r ≠ I) (hI : g.get? I = none) (hit : s.heap.IsListIter I r 0) (hl : s.heap.IsList r vs.toArray)
    (hJI : ∀ p ∈ cs₀, p.1 ≠ I ∧ p.1 ≠ D') (hn : acc.length + vs.length ≤ 1000000)
    (done : ∀ u ep h tk, Fr g cenv.locals h (fun z => if z = y then u else m₀ z) → News g cenv.locals h ((D', W.listOf (acc ++ vs).toArray ep) :: cs₀) → h.IsList r vs.toArray → R (.ok .next) { s with heap := h, toks := tk }) :
    codeAny (model prog w) A (.compLoop (.ListComp (.Name y pe) [⟨.Name x px, it1, [], 0⟩, ⟨.Name y py, it2, [], 0⟩] scope pos) 1 (.ref I) (.ref D') cenv) R s := by
  have Wk := Walks.list (prog := prog) (w := w) (A := A) hh I r hrI vs.toArray
  refine comp2_inner (fun k s' => ∃ i u h tk ep, s' = { s with heap := h, toks := tk } ∧ i ≤ vs.length ∧ k = vs.length + 1 - i ∧ (h.IsListIter I r i ∧ h.IsList r vs.toArray) ∧ Fr g cenv.locals h (fun z => if z = y then u else m₀ z) ∧ News g cenv.locals h ((D', W.listOf (acc ++ vs.take i).toArray ep) :: cs₀)) ?_ (vs.length + 1)
    ⟨0, m₀ y, s.heap, s.toks, ep₀, rfl, Nat.zero_le _, rfl, ⟨hit, hl⟩, ?_, by simpa using N⟩
  · rintro k s' ⟨i, u, h, tk, ep, rfl, hi, rfl, hst', F', N'⟩
    have kpN : ∀ {h₁ : Heap}, (∀ b o, b ∉ [I] → h.get? b = some o → h₁.get? b = some o) → Fr g cenv.locals h₁ (fun z => if z = y then u else m₀ z) ∧ News g cenv.locals h₁ ((D', W.listOf (acc ++ vs.take i).toArray ep) :: cs₀) := fun {h₁} kk =>
      ⟨Fr.kp F' (W := [I]) kk (by simpa using hLI) (by simpa using hI), News.kp N' (W := [I]) kk fun p hp => by
        rcases List.mem_cons.mp hp with rfl | hp
        · simpa using hDI
        · simpa using (hJI p hp).1⟩
    by_cases hlt : i < vs.length
    · refine Wk.item i _ _ _ (by simpa using hlt) hst' fun v h₁ tk₁ hPv hst₁ hk₁ => ?_
      obtain ⟨F₁, N₁⟩ := kpN hk₁
      dsimp only
      refine wpAny_assign_Name (wpAny_storeName_local hx F₁.ns (fun h₂ hn₂ hs₂ => ?_) hp)
      have F₂ := F₁.set hn₂ hs₂
      rw [ins_twice] at F₂
      have N₂ := N₁.set hs₂
      have kL : ∀ b o, b ≠ cenv.locals → h₁.get? b = some o → h₂.get? b = some o := fun b o n e => hs₂.extBut b o n e
      refine wpAny_Name (wpAny_loadName_local (v := v) hk hx F₂.ns (if_pos rfl) ?_) hb
      refine append_at (hsz := by
        have := List.length_take_le i vs
        rw [List.size_toArray, sizeLine_eq, List.length_append]; omega) (N₂ (D', W.listOf (acc ++ vs.take i).toArray ep) (.head _)).1 fun h₅ hs₅ ho₅ => ?_
      have nD := N₂ (D', W.listOf (acc ++ vs.take i).toArray ep) (.head _)
      have F₅ : Fr g cenv.locals h₅ _ := F₂.change hs₅ nD.2.1 nD.2.2
      have N₅ : News g cenv.locals h₅ ((D', W.listOf ((acc ++ vs.take i).toArray.push v) (ep + 1)) :: cs₀) :=
        news_set (pre := []) N₂ (fun p hp => nomatch hp) (fun p hp => (hJI p hp).2) hs₅ ho₅
      have e1 : (acc ++ vs.take i).toArray.push v = (acc ++ vs.take (i + 1)).toArray := by
        have e2 : vs[i]? = some v := by simpa using hPv
        rw [List.push_toArray, List.take_add_one, e2, List.append_assoc]; rfl
      rw [e1] at N₅
      refine ⟨vs.length + 1 - (i + 1), by omega, i + 1, some v, h₅, _, ep + 1, rfl, hlt, rfl, ?_, F₅, N₅⟩
      refine ⟨(hst₁.1.at fun o e => kL _ _ (Ne.symm hLI) e).at fun o e => hs₅.extBut _ _ (Ne.symm hDI) e, ?_⟩
      exact Heap.IsList.at (Heap.IsList.at hst₁.2 fun o e => kL _ _ (Ne.symm hLr) e) fun o e => hs₅.extBut _ _ (Ne.symm hDr) e
    · have hin : i = vs.length := by omega
      subst hin
      refine Wk.done _ _ _ (by simpa using hst') fun h₁ tk₁ hk₁ => ?_
      obtain ⟨F₁, N₁⟩ := kpN hk₁
      rw [List.take_length] at N₁
      exact done u ep h₁ tk₁ F₁ N₁ (hst'.2.at fun o e => hk₁ _ _ (by simpa using hrI) e)
  · have e1 : (fun z => if z = y then m₀ y else m₀ z) = m₀ := by
      funext z
      by_cases q : z = y <;> simp [q]
    rw [e1]; exact F

/-- what is to be shown behind the first source of «y for x in .. for y in ..» -/
inductive List2Go (w : World) (A : Around) (env : Env) (scope : Scope) (cl : List (Str × Addr)) (it2 : Expr) (x y : Str) (Q : Value → Shared → Prop) (xv : Value) (s₁ : Shared) : Prop
  | mk (c : Addr) (items : Array Value) (f19 : xv = .ref c) (f29 : s₁.heap.IsList c items) (J : Addr → Addr → Addr → Nat → (Str → Option Value) → List Value → List (Addr × Obj) → Prop) (f39 : (∀ I D' C, I = s₁.heap.objs.size → D' = I + 1 → C = D' + 1 → J I D' C 0 (fun _ => none) [] [])) (f49 : (∀ I D' C i v m acc ep cs h tk oI, I = s₁.heap.objs.size → D' = I + 1 → C = D' + 1 → items[i]? = some v → J I D' C i m acc cs → (∀ p ∈ cs, p.1 ≠ I ∧ p.1 ≠ D') →
      Fr s₁.heap C h (fun y => if y = x then some v else m y) → News s₁.heap C h ((I, oI) :: (D', W.listOf acc.toArray ep) :: cs) →
      wpAny (model prog w) A (eval it2 (compEnvC scope cl C env)) (fun yv s₃ => 
          Stop (∃ r vs h' tk' m' cs', yv = .ref r ∧ s₃ = { s₁ with heap := h', toks := tk' } ∧ Fr s₁.heap C h' m' ∧ News s₁.heap C h' ((I, oI) :: (D', W.listOf acc.toArray ep) :: cs') ∧ (∀ p ∈ cs', p.1 ≠ I ∧ p.1 ≠ D') ∧
            h'.IsList r vs.toArray ∧ r ≠ I ∧ r ≠ D' ∧ r ≠ C ∧ acc.length + vs.length ≤ 1000000 ∧ ∀ u, J I D' C (i + 1) (fun z => if z = y then u else m' z) (acc ++ vs) cs')) (fun _ _ => False) { s₁ with heap := h, toks := tk })) (f59 : (∀ I D' C m acc ep cs h' tk, I = s₁.heap.objs.size → D' = I + 1 → C = D' + 1 → J I D' C items.size m acc cs → s₁.heap.StaysIn h' → h'.get? D' = some (W.listOf acc.toArray ep) → s₁.heap.get? D' = none →
      (∀ p ∈ cs, h'.get? p.1 = some p.2 ∧ p.1 ≠ D' ∧ s₁.heap.get? p.1 = none) → Q (.ref D') { s₁ with heap := h', toks := tk })) : List2Go w A env scope cl it2 x y Q xv s₁
theorem eval_listComp2 {iter it2 : Expr} {x y : Str} {px py pe : Pos} {scope : Scope} {cl : List (Str × Addr)} {pos : Pos} {Q : Value → Shared → Prop} (hh : A.handled = none)
    (hclos : closureFor scope env = pure cl) (hcell : ∀ y ∈ scope.names, y.2 ≠ .cell) (hkind : scope.kind = .function)
    (hnames : ∀ y ∈ scope.names, y.2 = .local → scope.names.lookup y.1 = some .local) (hx : scope.names.lookup x = some .local) (hy : scope.names.lookup y = some .local) (hb : (y == ("__debug__" : Str)) = false)
    (h : wpAny (model prog w) A (eval iter env) (fun xv s₁ => Stop (List2Go w A env scope cl it2 x y Q xv s₁)) (fun _ _ => False) s)
    (hs : ∀ x, foldedSetIterable iter env x = pure x) (hs2 : ∀ C x, foldedSetIterable it2 (compEnvC scope cl C env) x = pure x) :
    wpAny (model prog w) A (eval (.ListComp (.Name y pe) [⟨.Name x px, iter, [], 0⟩, ⟨.Name y py, it2, [], 0⟩] scope pos) env) Q E s := by
  rw [eval_ListComp]
  refine wpAny_comprehension_free (use := none) rfl hs hclos hkind hnames (wpAny_mono h (fun xv s₁ h₁ => ?_) fun _ _ e => e.elim)
  obtain ⟨c, items, rfl, hl, J, h0, turn, done⟩ := h₁
  obtain ⟨oc, hoc, _⟩ := id hl
  have hcI : c < s₁.heap.objs.size := Heap.lt_size hoc
  refine wpAny_pyIter_list hl ?_
  generalize hH1 : s₁.heap.push { cls := .type "list_iterator", data := .fields #[.ref c, .int 0 0] } = H1
  have sz1 : H1.objs.size = s₁.heap.objs.size + 1 := by rw [← hH1, Heap.size_push]
  refine wpAny_newObj_type (hd := by size_fits) (wpAny_newFunctionEnv hcell (by intro y hy; simp at hy) (fun h₁ hns₁ hsb₁ => ?_) hkind)
  dsimp only at hns₁ hsb₁ ⊢
  generalize hH2 : H1.push { cls := .type "list", dict := none, data := .seq ([] : List Value).toArray } = H2 at hns₁ hsb₁ ⊢
  have sz2 : H2.objs.size = s₁.heap.objs.size + 1 + 1 := by rw [← hH2, Heap.size_push, sz1]
  have st1 : s₁.heap.StaysIn h₁ := fun b o e => hsb₁.extBut b o (by have := Heap.lt_size e; rw [sz2]; exact Nat.ne_of_lt (Nat.lt_succ_of_lt (Nat.lt_succ_of_lt this))) (Heap.get?_push_of_some _ (hH2 ▸ Heap.get?_push_of_some _ (hH1 ▸ Heap.get?_push_of_some _ e)))
  have hI1 : h₁.IsListIter s₁.heap.objs.size c 0 := ⟨_, hsb₁.extBut _ _ (by rw [sz2]; refine neN ?_; omega) (Heap.get?_push_of_some _ (hH2 ▸ Heap.get?_push_of_some _ (hH1 ▸ Heap.get?_push_size _ rfl))), rfl, rfl⟩
  have hD1 : h₁.get? (s₁.heap.objs.size + 1) = some (W.listOf #[] 0) := by
    have := hsb₁.extBut (s₁.heap.objs.size + 1) _ (by rw [sz2]; refine neN ?_; omega) (Heap.get?_push_of_some _ (hH2 ▸ (sz1 ▸ Heap.get?_push_size H1 (o := { cls := .type "list", dict := none, data := .seq ([] : List Value).toArray }) rfl)))
    exact this
  have fresh : ∀ a, s₁.heap.objs.size ≤ a → s₁.heap.get? a = none := fun a ha => by
    cases e : s₁.heap.get? a with
    | none => rfl
    | some o' => exact absurd (Heap.lt_size e) (Nat.not_lt.mpr ha)
  have F0 : Fr s₁.heap H2.objs.size h₁ (fun _ => none) := ⟨hns₁, st1, by rw [sz2]; omega⟩
  have N0 : News s₁.heap H2.objs.size h₁ [(s₁.heap.objs.size + 1, W.listOf #[] 0)] := fun p hp => by
    rw [List.mem_singleton.mp hp]
    exact ⟨hD1, by rw [sz2]; exact Nat.ne_of_lt (Nat.lt_succ_self _), fresh _ (Nat.le_succ _)⟩
  have hrx : (compEnvC scope cl H2.objs.size env).kindOf x = some .local := lookup_relabel_local hx
  have hry : (compEnvC scope cl H2.objs.size env).kindOf y = some .local := lookup_relabel_local hy
  have hkf : (compEnvC scope cl H2.objs.size env).scope.kind = .function := by simp [compEnvC, relabel, hkind]
  have hpf : ((compEnvC scope cl H2.objs.size env).scope.kind == .class || ((compEnvC scope cl H2.objs.size env).scope.kind == .module && (compEnvC scope cl H2.objs.size env).locals != (compEnvC scope cl H2.objs.size env).globals)) = false := by simp [hkf]
  have hDI : s₁.heap.objs.size + 1 ≠ s₁.heap.objs.size := neN (by omega)
  have hIL : H2.objs.size ≠ s₁.heap.objs.size := by rw [sz2]; exact neN (by omega)
  have hDL : s₁.heap.objs.size + 1 ≠ H2.objs.size := by rw [sz2]; exact neN (by omega)
  have hcI' : c ≠ s₁.heap.objs.size := Nat.ne_of_lt hcI
  have hcL : c ≠ H2.objs.size := by rw [sz2]; exact neN (by have := ltN hcI; omega)
  have Wk := Walks.list (prog := prog) (w := w) (A := A) hh s₁.heap.objs.size c hcI' items
  have loop : ∀ s₃ : Shared, s₃ = { s₁ with heap := h₁, toks := s₁.toks } → 
      codeAny (model prog w) A (.compLoop (.ListComp (.Name y pe) [⟨.Name x px, iter, [], 0⟩, ⟨.Name y py, it2, [], 0⟩] scope pos) 0 (.ref s₁.heap.objs.size) (.ref H1.objs.size) (compEnvC scope cl H2.objs.size env))
        (compPost (model prog w) A E none Q (.ref H1.objs.size) H2.objs.size) s₃ := by
    rintro s₃ rfl
    rw [sz1]
    refine comp2_outer (fun k s' => ∃ i h tk m acc ep cs, s' = { s₁ with heap := h, toks := tk } ∧ i ≤ items.size ∧ k = items.size + 1 - i ∧ (h.IsListIter s₁.heap.objs.size c i ∧ h.IsList c items) ∧ Fr s₁.heap H2.objs.size h m ∧
      News s₁.heap H2.objs.size h ((s₁.heap.objs.size + 1, W.listOf acc.toArray ep) :: cs) ∧ (∀ p ∈ cs, p.1 ≠ s₁.heap.objs.size ∧ p.1 ≠ s₁.heap.objs.size + 1) ∧ J s₁.heap.objs.size (s₁.heap.objs.size + 1) H2.objs.size i m acc cs)
      (hs2 _) ?_ (items.size + 1) ⟨0, h₁, s₁.toks, fun _ => none, [], 0, [], rfl, Nat.zero_le _, rfl, ⟨hI1, isList_keeps hl st1⟩, F0, N0, (fun _ q => nomatch q), h0 _ _ _ rfl rfl sz2⟩
    rintro k s' ⟨i, h, tk, m, acc, ep, cs, rfl, hi, rfl, hst', F', N', hcs, hJ⟩
    have kpN : ∀ {h₁ : Heap}, (∀ b o, b ∉ [s₁.heap.objs.size] → h.get? b = some o → h₁.get? b = some o) → Fr s₁.heap H2.objs.size h₁ m ∧ News s₁.heap H2.objs.size h₁ ((s₁.heap.objs.size + 1, W.listOf acc.toArray ep) :: cs) := fun {h₁} kk =>
      ⟨Fr.kp F' (W := [s₁.heap.objs.size]) kk (by simpa using hIL) (by simpa using fresh _ (Nat.le_refl _)), News.kp N' (W := [s₁.heap.objs.size]) kk fun p hp => by
        rcases List.mem_cons.mp hp with rfl | hp
        · simp
        · simpa using (hcs p hp).1⟩
    by_cases hlt : i < items.size
    · refine Wk.item i _ _ _ hlt hst' fun v h₂ tk₂ hPv hst₂ hk₂ => ?_
      obtain ⟨F₂, N₂⟩ := kpN hk₂
      obtain ⟨oI, hoI, hoc1, hod1⟩ := id hst₂.1
      have N₂' : News s₁.heap H2.objs.size h₂ ((s₁.heap.objs.size, oI) :: (s₁.heap.objs.size + 1, W.listOf acc.toArray ep) :: cs) := fun p hp => by
        rcases List.mem_cons.mp hp with rfl | hp
        · exact ⟨hoI, Ne.symm hIL, fresh _ (Nat.le_refl _)⟩
        · exact N₂ p hp
      dsimp only
      refine wpAny_assign_Name (wpAny_storeName_local hrx F₂.ns (fun h₃ hn₃ hs₃ => ?_) hpf)
      refine wpAny_mono (turn _ _ _ i v m acc ep cs h₃ _ oI rfl rfl sz2 hPv hJ hcs (F₂.set hn₃ hs₃) (N₂'.set hs₃)) (fun yv s₃ h₄ => ?_) fun _ _ e => e.elim
      obtain ⟨r, vs, h', tk', m', cs', rfl, rfl, F₄, N₄, hcs', hlr, hrI, hrD, hrC, hle, hJ'⟩ := h₄
      refine wpAny_pyIter_list hlr ?_
      obtain ⟨orr, hor, _⟩ := id hlr
      have hrs : r < h'.objs.size := Heap.lt_size hor
      have hF5 : Fr s₁.heap H2.objs.size (h'.push { cls := .type "list_iterator", data := .fields #[.ref r, .int 0 0] }) m' := F₄.push _
      have hN5 : News s₁.heap H2.objs.size (h'.push { cls := .type "list_iterator", data := .fields #[.ref r, .int 0 0] }) ((s₁.heap.objs.size, oI) :: (s₁.heap.objs.size + 1, W.listOf acc.toArray ep) :: cs') := fun p hp => ⟨Heap.get?_push_of_some _ (N₄ p hp).1, (N₄ p hp).2⟩
      have hit5 : (h'.push { cls := .type "list_iterator", data := .fields #[.ref r, .int 0 0] }).IsListIter h'.objs.size r 0 := ⟨_, Heap.get?_push_size _ rfl, rfl, rfl⟩
      have below : ∀ {b o}, h'.get? b = some o → b ≠ h'.objs.size := fun e => Nat.ne_of_lt (Heap.lt_size e)
      have bI := below (N₄ _ (.head _)).1
      have bD := below (N₄ _ (.tail _ (.head _))).1
      have bL : H2.objs.size ≠ h'.objs.size := by obtain ⟨o, _, _, e, _⟩ := F₄.ns; exact below e
      refine comp2_start ?_ (fun Q' E' hq => wpAny_pyIter_listiter hit5 hq)
      refine compInnerK (cenv := compEnvC scope cl H2.objs.size env) (g := s₁.heap) (m₀ := m') (acc := acc) (ep₀ := ep) (cs₀ := (s₁.heap.objs.size, oI) :: cs') hh hF5 ?_ hkf hry hpf hb bL (Ne.symm hrC) bD (Ne.symm hrD) (Nat.ne_of_lt hrs) ?_ hit5 (isList_keeps hlr fun b o e => Heap.get?_push_of_some _ e) ?_ hle ?_
      · intro p hp
        rcases List.mem_cons.mp hp with rfl | hp
        · exact hN5 _ (.tail _ (.head _))
        · rcases List.mem_cons.mp hp with rfl | hp
          · exact hN5 _ (.head _)
          · exact hN5 p (.tail _ (.tail _ hp))
      · exact fresh _ (by have h1 : H2.objs.size < h'.objs.size := F₄.ns.lt; have h2 := ltN h1; dsimp only at h2 ⊢; omega)
      · intro p hp
        rcases List.mem_cons.mp hp with rfl | hp
        · exact ⟨bI, Ne.symm hDI⟩
        · exact ⟨below (N₄ p (.tail _ (.tail _ hp))).1, (hcs' p hp).2⟩
      · intro u ep' h₆ tk₆ F₆ N₆ hl₆
        have hI6 := N₆ _ (.tail _ (.head _))
        refine ⟨items.size + 1 - (i + 1), by omega, i + 1, h₆, tk₆, _, acc ++ vs, ep', cs', rfl, hlt, rfl, ⟨⟨oI, hI6.1, hoc1, hod1⟩, ?_⟩, F₆, News.sub N₆ (fun p hp => ?_), hcs', hJ' u⟩
        · exact isList_keeps hl F₆.keep
        · rcases List.mem_cons.mp hp with rfl | hp
          · exact .head _
          · exact .tail _ (.tail _ hp)
    · have hin : i = items.size := by omega
      subst hin
      refine Wk.done _ _ _ hst' fun h₂ tk₂ hk₂ => ?_
      obtain ⟨F₂, N₂⟩ := kpN hk₂
      refine ⟨m, F₂.ns, fun h' hs' => ?_⟩
      refine done _ _ _ m acc ep cs h' tk₂ rfl rfl sz2 hJ (fun b o e => hs'.extBut b o (by have := ltN (Heap.lt_size e); rw [sz2]; refine neN ?_; omega) (F₂.keep b o e)) (hs'.extBut _ _ hDL (N₂ _ (.head _)).1) (fresh _ (Nat.le_succ _)) fun p hp => ?_
      have hp' := N₂ p (.tail _ hp)
      exact ⟨hs'.extBut _ _ hp'.2.1 hp'.1, (hcs p hp).2, hp'.2.2⟩
  exact codeAny_compStart_list (loop _ rfl) (wpAny_pyIter_listiter hI1 (loop _ rfl))
end
end
noncomputable section
theorem forRange {w : World} {A : Around} {s : Shared} {env : Env} {R : Result → Shared → Prop} {E : Value → Shared → Prop} {x : Str} {px : Pos} {body : List Stmt} {g : Heap} {m₀ : Str → Option Value} {cs₀ : List (Addr × Obj)}
    {r : Addr} {a b c : Int} {t₀ u₀ v₀ : Tok} {n : Nat} (F : Fr g env.locals s.heap m₀) (N : News g env.locals s.heap cs₀) (hh : A.handled = none)
    (hr : IsRange s.heap r a b c t₀ u₀ v₀) (hsmall : Builtin.Range.small a b c = true) (hn : Builtin.Range.rangeSize a b c = (n : Int))
    (hx : env.kindOf x = some .local) (hp : (env.scope.kind == .class || (env.scope.kind == .module && env.locals != env.globals)) = false)
    (J : Nat → (Str → Option Value) → List (Addr × Obj) → Prop) (h0 : J 0 m₀ cs₀)
    (turn : ∀ (i : Nat) t m cs h tk I oI, i < n → J i m cs → (∀ p ∈ cs, p.1 ≠ I) → Fr g env.locals h (fun y => if y = x then some (.int (a + i * c) t) else m y) → News g env.locals h ((I, oI) :: cs) →
      wpAny (model prog w) A (execs body env) (fun f s₃ => match f with
        | .next | .cont => Stop (∃ h' tk' m' cs', s₃ = { s with heap := h', toks := tk' } ∧ Fr g env.locals h' m' ∧ News g env.locals h' ((I, oI) :: cs') ∧ (∀ p ∈ cs', p.1 ≠ I) ∧ J (i + 1) m' cs')
        | .brk => R (.ok .next) s₃
        | .ret v => R (.ok (.ret v)) s₃) (fun _ _ => False) { s with heap := h, toks := tk })
    (done : ∀ m cs h tk, J n m cs → Fr g env.locals h m → News g env.locals h cs → R (.ok .next) { s with heap := h, toks := tk }) :
    wpAny (model prog w) A (pyIter (.ref r)) (fun it s₂ => codeAny (model prog w) A (.forLoop (.Name x px) it body [] env) R s₂) E s := by
  have hLI : env.locals ≠ s.heap.objs.size := Nat.ne_of_lt F.ns.lt
  refine wpAny_pyIter_range hr hsmall ?_
  have Wk : Walks prog w A s.heap.objs.size [s.heap.objs.size] [s.heap.objs.size] n (fun i v => i < n ∧ ∃ t, v = .int (a + i * c) t)
      (fun i h => IsRangeIter h s.heap.objs.size (a + (i : Nat) * c) ((n : Int) - (i : Nat)) c) := (Walks.range hh _ a c n).bound
  refine forK (s := { s with heap := s.heap.push { cls := .type "range_iterator", data := .fields #[rawInt a, rawInt (Builtin.Range.rangeSize a b c), rawInt c] } }) (F.push _) (fun p hp => ⟨Heap.get?_push_of_some _ (N p hp).1, (N p hp).2⟩) Wk
    (fun i h st => ⟨_, st⟩) hx hp (by simpa using hLI) (next_is_new F) (by show IsRangeIter _ _ _ _ _; rw [hn]; simpa using Heap.get?_push_size _ rfl) J h0 (fun p hp q => absurd (Heap.lt_size (N p hp).1) (q ▸ Nat.lt_irrefl _)) ?_ ?_
  · rintro i v m cs h tk oI hi ⟨_, t, rfl⟩ hJ hcI F' N' st
    refine wpAny_mono (turn i t m cs h tk _ oI hi hJ hcI F' N') (fun f s₃ h₃ => ?_) fun _ _ e => e
    cases f with
    | next =>
      obtain ⟨h', tk', m', cs', e, F₃, N₃, hcI', hJ'⟩ := h₃
      exact ⟨h', tk', m', cs', e, F₃, N₃, hcI', (fun b hb nb => absurd (List.mem_singleton.mp hb) nb), hJ'⟩
    | cont =>
      obtain ⟨h', tk', m', cs', e, F₃, N₃, hcI', hJ'⟩ := h₃
      exact ⟨h', tk', m', cs', e, F₃, N₃, hcI', (fun b hb nb => absurd (List.mem_singleton.mp hb) nb), hJ'⟩
    | brk => exact h₃
    | ret v => exact h₃
  · exact done

theorem whileK {w : World} {A : Around} {s : Shared} {env : Env} {Q : Flow → Shared → Prop} {E : Value → Shared → Prop} {test : Expr} {pos : Pos} {body : List Stmt} {g : Heap} {m₀ : Str → Option Value} {cs₀ : List (Addr × Obj)}
    (F : Fr g env.locals s.heap m₀) (N : News g env.locals s.heap cs₀)
    (J : Nat → (Str → Option Value) → List (Addr × Obj) → Prop) (n₀ : Nat) (h0 : J n₀ m₀ cs₀)
    (turn : ∀ (n : Nat) m cs h tk, J n m cs → Fr g env.locals h m → News g env.locals h cs →
      wpAny (model prog w) A (isTrue test env (eval test env)) (fun b s₂ => if b = true then wpAny (model prog w) A (execs body env) (fun f s₃ => match f with
        | .next | .cont => Stop (∃ n' h' tk' m' cs', n' < n ∧ s₃ = { s with heap := h', toks := tk' } ∧ Fr g env.locals h' m' ∧ News g env.locals h' cs' ∧ J n' m' cs')
        | .brk => Q .next s₃
        | .ret v => Q (.ret v) s₃) (fun _ _ => False) s₂ else Q .next s₂) (fun _ _ => False) { s with heap := h, toks := tk }) :
    wpAny (model prog w) A (exec (.While test body [] pos) env) Q E s := by
  refine wpAny_While ?_
  refine codeAny_loop rfl (fun k s' => ∃ h tk m cs, s' = { s with heap := h, toks := tk } ∧ Fr g env.locals h m ∧ News g env.locals h cs ∧ J k m cs) ?_ n₀ ⟨s.heap, s.toks, m₀, cs₀, rfl, F, N, h0⟩
  rintro n s' ⟨h, tk, m, cs, rfl, F', N', hJ⟩
  show wpAny _ A ((whileTurn test body [] env).onRaise (fun x => do noteFrame x env; theTreesLotGoes x)) _ _ _
  refine wpAny_noted ?_
  simp only [whileTurn]
  refine wpAny_bind (wpAny_mono (turn n m cs h tk hJ F' N') (fun b s₂ h₂ => ?_) fun _ _ e => e.elim)
  cases b with
  | false =>
    rw [if_neg Bool.false_ne_true] at h₂
    simp only [Bool.false_eq_true, if_false]
    exact wpAny_bind (wpAny_execs_nil (wpAny_pure h₂))
  | true =>
    rw [if_pos rfl] at h₂
    simp only [if_true]
    refine wpAny_bind (wpAny_mono h₂ (fun f s₃ h₃ => ?_) fun _ _ e => e.elim)
    cases f with
    | next =>
      obtain ⟨n', h', tk', m', cs', hlt, e, F₃, N₃, hJ'⟩ := h₃
      exact wpAny_pure ⟨rfl, n', hlt, h', tk', m', cs', e, F₃, N₃, hJ'⟩
    | cont =>
      obtain ⟨n', h', tk', m', cs', hlt, e, F₃, N₃, hJ'⟩ := h₃
      exact wpAny_pure ⟨rfl, n', hlt, h', tk', m', cs', e, F₃, N₃, hJ'⟩
    | brk => exact wpAny_pure h₃
    | ret v => exact wpAny_pure h₃
theorem item_H {w : World} {A : Around} {E : Value → Shared → Prop} {s : Shared} {value slice : Expr} {a : Addr} {l : List Value} {i : Nat} {u : Tok} {x : Value} {Q : Value → Shared → Prop} (hl : s.heap.IsList a l.toArray)
    (hx : l[i]? = some x) (hz : l.length ≤ 1000000) (h : Q x s)
    (hs : subscripted slice false (.ref a) (.int (i : Int) u) = operate [.ref a, .int (i : Int) u] (getItem (.ref a) (.int (i : Int) u))) (hg : ∀ r, letTemporaryGo value (.ref a) r = pure ()) :
    wpAny (model prog w) A (subscriptTail value slice (.ref a) (.int (i : Int) u)) Q E s := by
  have := (List.getElem?_eq_some_iff.mp hx).1
  exact item_listL hl (by omega) (by omega) (by simpa using hx) h hs hg
theorem len_H {w : World} {A : Around} {E : Value → Shared → Prop} {s : Shared} {a : Addr} {l : List Value} {Q : Value → Shared → Prop} (hl : s.heap.IsList a l.toArray) (hz : l.length ≤ 1000000)
    (h : Q (.int (l.length : Int) (s.toks + 1)) { s with toks := s.toks + 1 + 1 }) : wpAny (model prog w) A (call (.builtin "len") [.ref a]) Q E s :=
  len_list hl (by rw [List.size_toArray]; omega) (by rw [List.size_toArray]; exact h)
theorem truthy_H {w : World} {A : Around} {E : Value → Shared → Prop} {s : Shared} {a : Addr} {l : List Value} {Q : Bool → Shared → Prop} (hl : s.heap.IsList a l.toArray) (hz : l.length ≤ 1000000)
    (h : Q (!l.isEmpty) { s with toks := s.toks + 1 + 1 }) : wpAny (model prog w) A (truthy (.ref a)) Q E s :=
  wpAny_truthy_list hl (by rw [List.size_toArray]; omega) (by rw [List.isEmpty_toArray]; exact h)
theorem pop_H {w : World} {A : Around} {E : Value → Shared → Prop} {s : Shared} {h₀ : Heap} {L a : Addr} {m : Str → Option Value} {news news' : List (Addr × Obj)} {n : Nat} {pre : List Value} {y : Value} {Q : Value → Shared → Prop}
    (F : Fr h₀ L s.heap m) (N : News h₀ L s.heap news) (U : Upd a (W.listOf (pre ++ [y]).toArray n) (W.listOf pre.toArray (n + 1)) news news')
    (hz : (pre ++ [y]).length ≤ 1000000) (h : ∀ h', Fr h₀ L h' m → News h₀ L h' news' → Q y { s with heap := h' }) : wpAny (model prog w) A (call (.builtin "list.pop") [.ref a]) Q E s :=
  kl_pop F N (kpa_last y pre) U (Nat.le_trans hz (by rw [sizeLine_eq]; omega)) h
theorem itemT_H {w : World} {A : Around} {E : Value → Shared → Prop} {s : Shared} {value slice : Expr} {a : Addr} {l : List Value} {i : Nat} {u : Tok} {x : Value} {Q : Value → Shared → Prop} (hl : IsTup s.heap a l.toArray)
    (hx : l[i]? = some x) (hz : l.length ≤ 1000000) (h : Q x s)
    (hs : subscripted slice false (.ref a) (.int (i : Int) u) = operate [.ref a, .int (i : Int) u] (getItem (.ref a) (.int (i : Int) u))) (hg : ∀ r, letTemporaryGo value (.ref a) r = pure ()) :
    wpAny (model prog w) A (subscriptTail value slice (.ref a) (.int (i : Int) u)) Q E s := by
  have := (List.getElem?_eq_some_iff.mp hx).1
  exact item_tupleL (j := i) hl (by omega) (by omega) (seqIndex_of (by omega) (by simpa using this)) hx h hs hg
theorem lenT_H {w : World} {A : Around} {E : Value → Shared → Prop} {s : Shared} {a : Addr} {l : List Value} {Q : Value → Shared → Prop} (hl : IsTup s.heap a l.toArray) (hz : l.length ≤ 1000000)
    (h : Q (.int (l.length : Int) (s.toks + 1)) { s with toks := s.toks + 1 + 1 }) : wpAny (model prog w) A (call (.builtin "len") [.ref a]) Q E s :=
  len_tuple hl (by rw [List.size_toArray]; omega) (by rw [List.size_toArray]; exact h)
theorem itemS_H {w : World} {A : Around} {E : Value → Shared → Prop} {s : Shared} {value slice : Expr} {x : Str} {t u : Tok} {i : Int} {c : Nat} {Q : Value → Shared → Prop}
    (hc : (seqIndex? i x.length).bind (x.cps[·]?) = some c) (h0 : 0 ≤ i) (h1 : i < 1000) (h : Q (.str ⟨#[c]⟩ s.toks) { s with toks := s.toks + 1 })
    (hs : subscripted slice false (.str x t) (.int i u) = operate [.str x t, .int i u] (getItem (.str x t) (.int i u))) (hg : ∀ r, letTemporaryGo value (.str x t) r = pure ()) :
    wpAny (model prog w) A (subscriptTail value slice (.str x t) (.int i u)) Q E s :=
  subscriptTail_builtin (typeIs_str s x t) PySem.F.slot_str_getitem.lookup (P.getItem_str (by simp only [Bool.or_eq_false_iff, decide_eq_false_iff_not]; omega) hc h) hs hg
theorem itemL_H {w : World} {A : Around} {E : Value → Shared → Prop} {s : Shared} {value slice : Expr} {a : Addr} {l : List Value} {u : Tok} {x : Value} {Q : Value → Shared → Prop} (hl : s.heap.IsList a (l.toArray.push x))
    (hz : l.length ≤ 1000000) (h : Q x s)
    (hs : subscripted slice false (.ref a) (.int (-1) u) = operate [.ref a, .int (-1) u] (getItem (.ref a) (.int (-1) u))) (hg : ∀ r, letTemporaryGo value (.ref a) r = pure ()) :
    wpAny (model prog w) A (subscriptTail value slice (.ref a) (.int (-1) u)) Q E s := by
  refine subscriptTail_builtin hl.typeIs slot_list_getitem.lookup (wpAny_getItem_list_neg hl (by decide) (by rw [Array.size_push]; omega) (by decide) ?_ h) hs hg
  rw [Array.size_push, List.size_toArray, show ((-1 : Int) + ((l.length + 1 : Nat) : Int)).toNat = l.length by omega]
  simp
theorem hand_call {g h h' : Heap} {L a : Addr} {m : Str → Option Value} {news news' : List (Addr × Obj)} {o o' : Obj} (F : Fr g L h m) (N : News g L h news) (U : Upd a o o' news news') (k : Kp [a] h h') (e : h'.get? a = some o') :
    Fr g L h' m ∧ News g L h' news' := by
  have N' := News.kp1 U N k e
  obtain ⟨pre, post, rfl, rfl, h1, h2⟩ := U.split
  have D := N (a, o) (by simp)
  exact ⟨Fr.kp F k (fun q => D.2.1 (List.mem_singleton.mp q).symm) (fun b q => by rw [List.mem_singleton.mp q]; exact D.2.2), N'⟩
theorem hand_call2 {g h h' : Heap} {L a b : Addr} {m : Str → Option Value} {news : List (Addr × Obj)} {o o' p p' : Obj} (F : Fr g L h m) (N : News g L h ((a, o) :: (b, p) :: news)) (off : ∀ q ∈ news, q.1 ≠ a ∧ q.1 ≠ b) (k : Kp [a, b] h h')
    (e : h'.get? a = some o') (e2 : h'.get? b = some p') :
    Fr g L h' m ∧ News g L h' ((a, o') :: (b, p') :: news) := by
  have D := N _ (.head _)
  have D2 := N _ (.tail _ (.head _))
  refine ⟨Fr.kp F k ?_ ?_, ?_⟩
  · intro q
    rcases List.mem_cons.mp q with q | q
    · exact D.2.1 q.symm
    · exact D2.2.1 (List.mem_singleton.mp q).symm
  · intro x q
    rcases List.mem_cons.mp q with rfl | q
    · exact D.2.2
    · rw [List.mem_singleton.mp q]; exact D2.2.2
  · intro q hq
    rcases List.mem_cons.mp hq with rfl | hq
    · exact ⟨e, D.2⟩
    · rcases List.mem_cons.mp hq with rfl | hq
      · exact ⟨e2, D2.2⟩
      · have Dq := N q (.tail _ (.tail _ hq))
        refine ⟨k _ _ (fun z => ?_) Dq.1, Dq.2⟩
        rcases List.mem_cons.mp z with z | z
        · exact (off q hq).1 z
        · exact (off q hq).2 (List.mem_singleton.mp z)
theorem newer_hide {g s h S : Heap} {W : List Addr} (hg : g = hideAll s W) (u : S.StaysIn h) (off : ∀ a ∈ W, S.get? a = none) : (newer g S).StaysIn (newer s h) := fun b o e => by
  obtain ⟨e1, e2⟩ := newer_iff.mp e
  refine newer_iff.mpr ⟨?_, u _ _ e2⟩
  cases q : s.get? b with
  | none => rfl
  | some x =>
    by_cases hb : b ∈ W
    · rw [off b hb] at e2; cases e2
    · rw [hg, hideAll_get _ q hb] at e1; cases e1
theorem newer_frz2 {g h h' S' : Heap} {L : Addr} {m : Str → Option Value} {cs : List (Addr × Obj)} (F : Fr g L h m) (hc : ∀ p ∈ cs, ∃ o, h.get? p.1 = some o)
    (o3 : ∀ b o, h'.get? b = some o → b ≠ L → (∀ p ∈ cs, p.1 ≠ b) → S'.get? b = some o) : (newer h h').StaysIn (newer g S') := fun b o e => by
  obtain ⟨e1, e2⟩ := newer_iff.mp e
  refine newer_iff.mpr ⟨?_, o3 b o e2 (fun q => ?_) (fun p hp q => ?_)⟩
  · cases q : g.get? b with
    | none => rfl
    | some x => have := F.keep _ _ q; rw [e1] at this; cases this
  · obtain ⟨x, _, _, e', _⟩ := F.ns
    rw [← q, e1] at e'; cases e'
  · obtain ⟨o', this⟩ := hc p hp
    rw [q, e1] at this; cases this
theorem ieq_yes {x y : Int} {P Q : Prop} (h : x = y) (p : P) : if (x == y) = true then P else Q := by rw [if_pos (by simp [h])]; exact p
theorem ieq_no {x y : Int} {P Q : Prop} (h : x ≠ y) (q : Q) : if (x == y) = true then P else Q := by rw [if_neg (by simp [h])]; exact q
theorem ine_yes {x y : Int} {P Q : Prop} (h : x ≠ y) (p : P) : if (x != y) = true then P else Q := by rw [if_pos (by simp [h])]; exact p
theorem ine_no {x y : Int} {P Q : Prop} (h : x = y) (q : Q) : if (x != y) = true then P else Q := by rw [if_neg (by simp [h])]; exact q
theorem item0T_H {w : World} {A : Around} {E : Value → Shared → Prop} {s : Shared} {value slice : Expr} {a : Addr} {l : List Value} {u : Tok} {x : Value} {Q : Value → Shared → Prop} (hl : IsTup s.heap a l.toArray)
    (hx : l[0]? = some x) (h : Q x s)
    (hs : subscripted slice false (.ref a) (.int 0 u) = operate [.ref a, .int 0 u] (getItem (.ref a) (.int 0 u))) (hg : ∀ r, letTemporaryGo value (.ref a) r = pure ()) :
    wpAny (model prog w) A (subscriptTail value slice (.ref a) (.int 0 u)) Q E s := by
  have := (List.getElem?_eq_some_iff.mp hx).1
  exact item_tupleL (j := 0) hl (by omega) (by omega) (seqIndex_of (by omega) (by simpa using this)) hx h hs hg
end
noncomputable section
/-! ## places -/
mutual
/-- the places of the words, in their order -/
def D.paths : D → List (List Nat)
  | .leaf _ => [[]]
  | .node _ ds => pathsL 0 ds
def pathsL : Nat → List D → List (List Nat)
  | _, [] => []
  | k, d :: r => d.paths.map (k :: ·) ++ pathsL (k + 1) r
end
mutual
theorem paths_length : ∀ d : D, d.paths.length = d.leaves.length
  | .leaf _ => rfl
  | .node _ ds => by simp only [D.paths, D.leaves]; exact pathsL_length 0 ds
theorem pathsL_length : ∀ (k : Nat) (ds : List D), (pathsL k ds).length = (leavesL ds).length
  | _, [] => rfl
  | k, d :: r => by simp only [pathsL, leavesL, List.length_append, List.length_map, paths_length d, pathsL_length (k + 1) r]
end
def childs (p : List Nat) : Nat → List D → List (D × List Nat)
  | _, [] => []
  | k, d :: r => (d, p ++ [k]) :: childs p (k + 1) r
def rem : List (D × List Nat) → List (List Nat)
  | [] => []
  | e :: r => e.1.paths.map (e.2 ++ ·) ++ rem r
theorem rem_append (a b : List (D × List Nat)) : rem (a ++ b) = rem a ++ rem b := by
  induction a with
  | nil => rfl
  | cons e r ih => simp only [List.cons_append, rem, ih, List.append_assoc]
theorem rem_childs (p : List Nat) : ∀ (k : Nat) (ds : List D), rem (childs p k ds) = (pathsL k ds).map (p ++ ·)
  | _, [] => rfl
  | k, d :: r => by
    simp only [childs, rem, pathsL, List.map_append, rem_childs p (k + 1) r, List.map_map]
    congr 1
    exact List.map_congr_left fun q _ => by simp
theorem childs_length (p : List Nat) : ∀ (k : Nat) (ds : List D), (childs p k ds).length = ds.length
  | _, [] => rfl
  | k, d :: r => by simp [childs, childs_length p (k + 1) r]
theorem childs_get (p : List Nat) : ∀ (k : Nat) (ds : List D) (i : Nat) (d : D), ds[i]? = some d → (childs p k ds)[i]? = some (d, p ++ [k + i])
  | _, [], _, _, h => by simp at h
  | k, d :: r, 0, d', h => by simp at h; subst h; rfl
  | k, d :: r, i + 1, d', h => by
    have := childs_get p (k + 1) r i d' (by simpa using h)
    rw [show k + (i + 1) = k + 1 + i by omega]
    simpa [childs] using this
def sizeS : List (D × List Nat) → Nat
  | [] => 0
  | e :: r => e.1.size + sizeS r
theorem sizeS_append (a b : List (D × List Nat)) : sizeS (a ++ b) = sizeS a + sizeS b := by
  induction a with
  | nil => simp [sizeS]
  | cons e r ih => simp only [List.cons_append, sizeS, ih]; omega
theorem sizeS_childs (p : List Nat) : ∀ (k : Nat) (ds : List D), sizeS (childs p k ds) = sizeL ds
  | _, [] => rfl
  | k, d :: r => by simp only [childs, sizeS, sizeL, sizeS_childs p (k + 1) r]
theorem len_le_sizeS : ∀ t : List (D × List Nat), t.length ≤ sizeS t
  | [] => Nat.le_refl _
  | e :: r => by
    have := len_le_sizeS r
    have : 1 ≤ e.1.size := by cases e.1 <;> simp [D.size]
    simp only [sizeS, List.length_cons]; omega

/-- the whole numbers of a place -/
def numsP (p : List Nat) : List Int := p.map fun (k : Nat) => (k : Int)
/-- a tuple of whole numbers -/
inductive PathAt (h : Heap) (v : Value) (p : List Nat) : Prop
  | mk (a : Addr) (xs : List Value) (f19 : v = .ref a) (f29 : h.get? a = some (tupO xs.toArray)) (f39 : IntsAre xs (numsP p)) : PathAt h v p
theorem PathAt.up {h h' : Heap} {v : Value} {p : List Nat} (T : PathAt h v p) (u : h.StaysIn h') : PathAt h' v p := let ⟨a, xs, e, x, i⟩ := T; ⟨a, xs, e, u _ _ x, i⟩
/-- one entry of the stack: a part and its place -/
inductive EntryAt (w : World) (B h : Heap) (v : Value) (e : D × List Nat) : Prop
  | mk (a : Addr) (u : Value) (q : Value) (f19 : v = .ref a) (f29 : h.get? a = some (tupO #[u, q])) (f39 : TreeAt w B u e.1) (f49 : PathAt h q e.2) (f59 : e.2.length + e.1.size ≤ 10000) : EntryAt w B h v e
theorem EntryAt.up {w : World} {B h h' : Heap} {v : Value} {e : D × List Nat} (T : EntryAt w B h v e) (u : h.StaysIn h') : EntryAt w B h' v e := let ⟨a, x, q, e, y, t, p, l⟩ := T; ⟨a, x, q, e, u _ _ y, t, p.up u, l⟩
/-- the stack, the top first -/
inductive Stk (w : World) (B h : Heap) : List Value → List (D × List Nat) → Prop
  | nil : Stk w B h [] []
  | cons {v : Value} {e : D × List Nat} {vs : List Value} {es : List (D × List Nat)} : EntryAt w B h v e → Stk w B h vs es → Stk w B h (v :: vs) (e :: es)
theorem Stk.up {w : World} {B h h' : Heap} {vs : List Value} {es : List (D × List Nat)} (T : Stk w B h vs es) (u : h.StaysIn h') : Stk w B h' vs es := by
  induction T with
  | nil => exact .nil
  | cons e _ ih => exact .cons (e.up u) ih
theorem Stk.length {w : World} {B h : Heap} {vs : List Value} {es : List (D × List Nat)} (T : Stk w B h vs es) : vs.length = es.length := by
  induction T with
  | nil => rfl
  | cons e _ ih => simp [ih]

theorem ins_self {m : Str → Option Value} {x : Str} {v : Option Value} (h : m x = v) : m = fun y => if y = x then v else m y := by
  funext y
  by_cases q : y = x
  · subst q; simp [h]
  · simp [q]
theorem over2 {m : Str → Option Value} {x y : Str} {u v : Option Value} (h : m x = u) (k : m y = v) : m = fun z => if z = x then u else if z = y then v else m z :=
  (ins_self h).trans (congrArg (fun m' => fun z => if z = x then u else m' z) (ins_self k))
theorem over3 {m : Str → Option Value} {x y z : Str} {u v o : Option Value} (h : m x = u) (k : m y = v) (l : m z = o) : m = fun t => if t = x then u else if t = y then v else if t = z then o else m t :=
  (ins_self h).trans (congrArg (fun m' => fun z => if z = x then u else m' z) (over2 k l))
theorem over4 {m : Str → Option Value} {x y z a : Str} {u v o b : Option Value} (h : m x = u) (k : m y = v) (l : m z = o) (q : m a = b) : m = fun t => if t = x then u else if t = y then v else if t = z then o else if t = a then b else m t :=
  (ins_self h).trans (congrArg (fun m' => fun z => if z = x then u else m' z) (over3 k l q))
theorem over5 {m : Str → Option Value} {x y z a c : Str} {u v o b d : Option Value} (h : m x = u) (k : m y = v) (l : m z = o) (q : m a = b) (r : m c = d) : m = fun t => if t = x then u else if t = y then v else if t = z then o else if t = a then b else if t = c then d else m t :=
  (ins_self h).trans (congrArg (fun m' => fun z => if z = x then u else m' z) (over4 k l q r))
theorem add_path {w : World} {A : Around} {E : Value → Shared → Prop} {s : Shared} {h₀ : Heap} {L t b : Addr} {m : Str → Option Value} {news : List (Addr × Obj)} {vs ws : List Value} {ns ms : List Int} {Q : Value → Shared → Prop}
    (F : Fr h₀ L s.heap m) (N : News h₀ L s.heap news) (ht : (t, tupO vs.toArray) ∈ news) (hb : (b, tupO ws.toArray) ∈ news) (hi : IntsAre vs ns) (hj : IntsAre ws ms) (hw : ws ≠ []) (hz : vs.length + ws.length ≤ 100000)
    (h : ∀ r h' xs, Fr h₀ L h' m → News h₀ L h' ((r, tupO xs.toArray) :: news) → IntsAre xs (ns ++ ms) → (r = b ∨ ∀ p ∈ news, p.1 ≠ r) → Q (.ref r) { s with heap := h' }) :
    wpAny (model prog w) A (binaryOp .Add (.ref t) (.ref b)) Q E s := by
  refine add_tuples_right F N ⟨_, (N _ ht).1, rfl, _, rfl⟩ ⟨_, (N _ hb).1, rfl, _, rfl⟩ hi hj hw (fun e => ?_) (fun h' F' N' hx => ?_) (Nat.le_trans hz (by rw [sizeLine_eq]; omega))
  · subst e
    cases hi
    exact h b s.heap ws F (fun p hp => by rcases List.mem_cons.mp hp with rfl | hp; exact N _ hb; exact N p hp) (by simpa using hj) (.inl rfl)
  · exact h _ h' _ F' N' hx (.inr fun p hp q => absurd (Heap.lt_size (N p hp).1) (q ▸ Nat.lt_irrefl _))
def lcp : List Nat → List Nat → List Nat
  | a :: p, b :: q => if a = b then a :: lcp p q else []
  | _, _ => []
theorem lcp_stop : ∀ {p q : List Nat} (i : Nat), p.take i = q.take i → i ≤ p.length → i ≤ q.length → (∀ a b, p[i]? = some a → q[i]? = some b → a ≠ b) → (i < p.length ∨ i < q.length ∨ True) → lcp p q = p.take i
  | [], _, 0, _, _, _, _, _ => rfl
  | _ :: _, [], 0, _, _, _, _, _ => rfl
  | a :: p, b :: q, 0, _, _, _, h, _ => by rw [lcp, if_neg (h a b rfl rfl)]; rfl
  | [], _, i + 1, _, h, _, _, _ => by simp at h
  | _ :: _, [], i + 1, _, _, h, _, _ => by simp at h
  | a :: p, b :: q, i + 1, e, h1, h2, h, _ => by
    simp only [List.take_succ_cons, List.cons.injEq] at e
    rw [lcp, if_pos e.1, List.take_succ_cons, lcp_stop i e.2 (by simpa using h1) (by simpa using h2) (by simpa using h) (.inr (.inr trivial))]
theorem lcp_all {p q : List Nat} (e : p.take p.length = q.take p.length) (h : p.length ≤ q.length) : lcp p q = p := by
  have := lcp_stop p.length e (Nat.le_refl _) h (fun a b h1 => by simp at h1) (.inr (.inr trivial))
  rwa [List.take_length] at this
mutual
theorem paths_ht : ∀ (d : D) (p : List Nat), p ∈ d.paths → p.length ≤ d.ht
  | .leaf _, p, h => by rw [D.paths, List.mem_singleton] at h; subst h; exact Nat.zero_le _
  | .node _ ds, p, h => by rw [D.paths] at h; have := pathsL_ht ds 0 p h; rw [D.ht]; exact this
theorem pathsL_ht : ∀ (ds : List D) (k : Nat) (p : List Nat), p ∈ pathsL k ds → p.length ≤ htL ds + 1
  | [], _, p, h => by simp [pathsL] at h
  | d :: r, k, p, h => by
    rw [pathsL, List.mem_append, List.mem_map] at h
    rw [htL]
    rcases h with ⟨q, hq, rfl⟩ | h
    · have := paths_ht d q hq; simp only [List.length_cons]; omega
    · have := pathsL_ht r (k + 1) p h; omega
end
mutual
theorem ht_le_size : ∀ d : D, d.ht ≤ d.size
  | .leaf _ => by simp [D.ht]
  | .node _ ds => by have := htL_le_sizeL ds; simp only [D.ht, D.size]; omega
theorem htL_le_sizeL : ∀ ds : List D, htL ds ≤ sizeL ds
  | [] => by simp [htL]
  | d :: r => by have := ht_le_size d; have := htL_le_sizeL r; simp only [htL, sizeL]; omega
end
theorem numsP_get {xs : List Value} {p : List Nat} (h : IntsAre xs (numsP p)) {i k : Nat} (e : p[i]? = some k) : ∃ t, xs[i]? = some (.int (k : Int) t) :=
  h.get i _ (by rw [numsP, List.getElem?_map, e]; rfl)
theorem numsP_length {xs : List Value} {p : List Nat} (h : IntsAre xs (numsP p)) : xs.length = p.length := by rw [h.length, numsP, List.length_map]
theorem numsP_take {xs : List Value} {p : List Nat} (h : IntsAre xs (numsP p)) (i : Nat) : IntsAre (xs.take i) (numsP (p.take i)) := by
  rw [numsP, List.map_take]; exact h.take i
end
noncomputable section
section
variable {w : World} {A : Around} {E : Value → Shared → Prop} {s : Shared}
theorem adjust_to (a n : Nat) (ha : a ≤ n) : Builtin.Slice.sliceAdjust none (some (a : Int)) 1 (n : Int) = (0, (a : Int)) := by
  unfold Builtin.Slice.sliceAdjust
  have h1 : ¬ ((1 : Int) < 0) := by omega
  have h2 : ¬ ((a : Int) < 0) := by omega
  simp only [h1, h2, if_false]
  congr 1
  omega
theorem places_to (a : Nat) : Builtin.Slice.slicePlaces 0 (a : Int) 1 = a := by
  unfold Builtin.Slice.slicePlaces
  have h1 : (1 : Int) > 0 := by omega
  simp only [h1, if_true, Int.ediv_one]
  split <;> omega
theorem applied_to {sl : Addr} {a n : Nat} {u : Tok} {Q : Int × Int × Nat → Shared → Prop} (hs : s.heap.IsSliceOf sl .none (.int a u) .none) (ha : a ≤ n) (h : Q ((0 : Int), 1, a) s) :
    wpAny (model prog w) A (Builtin.Slice.sliceApplied (.ref sl) (pure (n : Int))) Q E s := by
  obtain ⟨os, hos, hcs, hds⟩ := id hs
  unfold Builtin.Slice.sliceApplied Builtin.Slice.sliceFields
  refine wpAny_bind (wpAny_bind (wpAny_field hos hds (x := .none) rfl (wpAny_bind (wpAny_field hos hds (x := .int a u) rfl (wpAny_bind (wpAny_field hos hds (x := .none) rfl (wpAny_pure ?_)))))))
  refine wpAny_bind (slicePart_none ?_)
  show wpAny _ _ (if ((1 : Int) == 0) = true then _ else _) _ _ s
  rw [if_neg (by decide)]
  refine wpAny_bind (slicePart_none (wpAny_bind (slicePart_int (wpAny_bind (wpAny_pure ?_)))))
  show wpAny _ _ (match Builtin.Slice.sliceAdjust none (some (a : Int)) 1 (n : Int) with | (lo, hi) => pure (lo, (1 : Int), Builtin.Slice.slicePlaces lo hi 1)) _ _ s
  rw [adjust_to a n ha]
  show wpAny _ _ (pure ((0 : Int), (1 : Int), Builtin.Slice.slicePlaces (0 : Int) (a : Int) 1)) _ _ s
  rw [places_to a]
  exact wpAny_pure h
theorem pick_to (l : List Value) (a : Nat) (_ha : a ≤ l.length) : ((List.range a).filterMap fun (k : Nat) => l.toArray[((0 : Int) + (k : Int) * 1).toNat]?).toArray = (l.take a).toArray := by
  have e : (fun (k : Nat) => l.toArray[((0 : Int) + (k : Int) * 1).toNat]?) = fun k => l[k]? := by
    funext k
    have : ((0 : Int) + (k : Int) * 1).toNat = k := by omega
    rw [this]; simp
  rw [e]
  have h : ∀ (l : List Value) (a : Nat), a ≤ l.length → (List.range a).filterMap (fun k => l[k]?) = l.take a := by
    intro l a
    induction a with
    | zero => intro _; rfl
    | succ a ih =>
      intro ha
      rw [List.range_succ, List.filterMap_append, ih (by omega), List.take_add_one]
      congr 1
  rw [h l a _ha]
theorem item_to {t sl : Addr} {l : List Value} {a : Nat} {u : Tok} {Q : Value → Shared → Prop} (ht : IsTup s.heap t l.toArray) (hs : s.heap.IsSliceOf sl .none (.int a u) .none) (ha : a ≤ l.length)
    (h0 : a = l.length → Q (.ref t) s)
    (h : Q (.ref s.heap.objs.size) { s with heap := s.heap.push (tupO (l.take a).toArray) })
    (hsz : l.length ≤ 1000000) : wpAny (model prog w) A (getItem (.ref t) (.ref sl)) Q E s := by
  have hdrop : sizeOk (.seq (l.take a).toArray) := by
    show (l.take a).toArray.size ≤ sizeLine
    rw [List.size_toArray, List.length_take, sizeLine_eq]
    omega
  obtain ⟨os, hos, hcs, hds⟩ := id hs
  have hTs : s.TypeIs (.ref sl) "slice" := ⟨os, hos, hcs⟩
  unfold getItem
  try with_reducible refine wpAny_holding ?_
  first | refine wpAny_bind (wpAny_pure ?_) | skip
  refine wpAny_bind (wpAny_sequenceKey ht.typeIs (by decide) ?_)
  refine wpAny_bind (wpAny_callSpecial?_slot (name := Str.ofString "__getitem__") ht.typeIs slot_tuple_getitem
    (wpAny_call_entry slot_tuple_getitem ht.typeIs entry_tuple_getitem ?_ (args_tuple_getitem _ _)))
  show wpAny _ _ (Builtin.Tuple.tupleItemsOf (.ref t) >>= _) _ _ s
  refine wpAny_bind (tupleItemsOf_ ht ?_)
  refine wpAny_bind (wpAny_typeOf hTs ?_)
  rw [if_pos (by decide)]
  have hsize : l.toArray.size = l.length := by simp
  rw [hsize]
  refine wpAny_bind (applied_to hs ha ?_)
  by_cases e : a = l.length
  · have hyes : ((0 : Int) == 0 && (1 : Int) == 1 && a == l.length) = true := by simp [e]
    show wpAny _ _ (if ((0 : Int) == 0 && (1 : Int) == 1 && a == l.toArray.size) = true then _ else _) _ _ s
    rw [hsize, if_pos hyes]
    refine wpAny_bind (m := Builtin.Tuple.tupleIsExact _) ?_
    unfold Builtin.Tuple.tupleIsExact
    refine wpAny_bind (wpAny_typeOf ht.typeIs (wpAny_pure ?_))
    rw [if_pos (by decide)]
    first
      | exact wpAny_bind (wpAny_rule (wpAny_pure ⟨_, rfl, wpAny_pure (h0 e)⟩))
  · have hno : ¬ (((0 : Int) == 0 && (1 : Int) == 1 && a == l.length) = true) := by simp [e]
    show wpAny _ _ (if ((0 : Int) == 0 && (1 : Int) == 1 && a == l.toArray.size) = true then _ else _) _ _ s
    rw [hsize, if_neg hno, pick_to l a ha]
    first
      | exact wpAny_bind (m := Builtin.Tuple.tupleExact _) (wpAny_newObj_type (wpAny_pure ⟨_, rfl, wpAny_pure h⟩) hdrop)
      | exact wpAny_bind (m := Builtin.Tuple.tupleExact _) (wpAny_newObj_type (wpAny_bind (wpAny_pure (wpAny_pure ⟨_, rfl, wpAny_pure h⟩))) hdrop)
      | exact wpAny_bind (wpAny_bind (m := Builtin.Tuple.tupleExact _) (wpAny_newObj_type (wpAny_pure (wpAny_pure ⟨_, rfl, wpAny_pure h⟩)) hdrop))
      | exact wpAny_bind (wpAny_bind (m := Builtin.Tuple.tupleExact _) (wpAny_newObj_type (wpAny_pure ⟨_, rfl, wpAny_pure h⟩) hdrop))

theorem slice_to {h₀ : Heap} {L : Addr} {m : Str → Option Value} {news : List (Addr × Obj)} {value slice : Expr} {t : Addr} {l : List Value} {a : Nat} {u : Tok} {Q : Value → Shared → Prop}
    (F : Fr h₀ L s.heap m) (N : News h₀ L s.heap news) (ht : (t, tupO l.toArray) ∈ news) (ha : a ≤ l.length) (hz : l.length ≤ 1000000)
    (h : ∀ r h', Fr h₀ L h' m → News h₀ L h' ((r, tupO (l.take a).toArray) :: news) → Q (.ref r) { s with heap := h' })
    (hs : subscripted slice false (.ref t) (.ref s.heap.objs.size) = operate [.ref s.heap.objs.size, .ref t] (getItem (.ref t) (.ref s.heap.objs.size)))
    (hg : ∀ r, letTemporaryGo value (.ref t) r = pure ()) :
    wpAny (model prog w) A (subscriptTail value slice (.ref t) (.ref s.heap.objs.size)) Q E { s with heap := s.heap.push { cls := .type "slice", data := .fields #[.none, .int a u, .none] } } := by
  have N0 : News h₀ L (s.heap.push { cls := .type "slice", data := .fields #[.none, .int a u, .none] }) news := N.grown fun _ _ e => Heap.get?_push_of_some _ e
  have ht' : IsTup (s.heap.push { cls := .type "slice", data := .fields #[.none, .int a u, .none] }) t l.toArray := ⟨_, (N0 _ ht).1, rfl, _, rfl⟩
  refine subscriptTail_ops (s := { s with heap := s.heap.push { cls := .type "slice", data := .fields #[.none, .int a u, .none] } }) ht'.typeIs slot_tuple_getitem.lookup
    (item_to ht' (Heap.IsSliceOf.new ..) ha (fun e => ?_) ?_ hz) hs hg
  · have e2 : l.take a = l := by rw [e, List.take_length]
    refine h t _ (F.push _) fun p hp => ?_
    rcases List.mem_cons.mp hp with rfl | hp
    · rw [e2]; exact N0 _ ht
    · exact N0 p hp
  · have N1 := News.push (F.push { cls := .type "slice", data := .fields #[.none, .int a u, .none] }) N0 (tupO (l.take a).toArray)
    exact h _ _ ((F.push _).push _) N1
end
end
noncomputable section
theorem ofString_inj {a b : String} (h : Str.ofString a = Str.ofString b) : a = b := by
  rw [Str.ofString_eq_toList, Str.ofString_eq_toList] at h
  have h1 := congrArg (fun x : Str => x.cps.toList) h
  simp only at h1
  have h2 : a.toList = b.toList := List.map_inj_right (fun x y e => Char.toNat_inj.mp e) |>.mp h1
  exact String.toList_inj.mp h2
theorem append_cancel {a b c : Str} (h : a ++ b = a ++ c) : b = c := by
  obtain ⟨b⟩ := b; obtain ⟨c⟩ := c; obtain ⟨a⟩ := a
  have h1 : (⟨a ++ b⟩ : Str) = ⟨a ++ c⟩ := h
  have h2 := congrArg Str.cps h1
  simp only at h2
  rw [Array.append_right_inj] at h2
  rw [h2]
theorem wordStr_inj {i j : Nat} (h : wordStr i = wordStr j) : i = j := by
  have h1 := ofString_inj (append_cancel h)
  have h2 : Int.repr (i : Int) = Int.repr (j : Int) := h1
  have h3 := Int.repr_injective h2
  omega
theorem Words.strs {vs : List Value} {is : List Nat} (h : Words vs is) : StrsAre vs (is.map wordStr) := by
  induction h with
  | nil => exact .nil
  | cons _ ih => exact .cons _ _ ih
theorem any_word (is : List Nat) (a : Nat) : ((is.map wordStr).any (· == wordStr a)) = decide (a ∈ is) := by
  rw [Bool.eq_iff_iff, List.any_eq_true, decide_eq_true_eq]
  constructor
  · rintro ⟨x, hx, e⟩
    obtain ⟨i, hi, rfl⟩ := List.mem_map.mp hx
    rw [← wordStr_inj (eq_of_beq e)]; exact hi
  · exact fun h => ⟨_, List.mem_map_of_mem h, beq_self_eq_true _⟩
section
variable {w : World} {A : Around} {E : Value → Shared → Prop} {s : Shared}
theorem in_H {l : Addr} {vs : List Value} {is : List Nat} {a : Nat} {t : Tok} {Q : Value → Shared → Prop} (hl : s.heap.IsList l vs.toArray) (hw : Words vs is)
    (h : Q (.bool (decide (a ∈ is))) s) : wpAny (model prog w) A (compareOp .In (.str (wordStr a) t) (.ref l)) Q E s :=
  in_list_strs hl hw.strs (by rw [any_word]; exact h)
theorem item0_H {value slice : Expr} {a : Addr} {l : List Value} {u : Tok} {x : Value} {Q : Value → Shared → Prop} (hl : s.heap.IsList a l.toArray)
    (hx : l[0]? = some x) (h : Q x s)
    (hs : subscripted slice false (.ref a) (.int 0 u) = operate [.ref a, .int 0 u] (getItem (.ref a) (.int 0 u))) (hg : ∀ r, letTemporaryGo value (.ref a) r = pure ()) :
    wpAny (model prog w) A (subscriptTail value slice (.ref a) (.int 0 u)) Q E s :=
  item_listL hl (by omega) (by omega) (by simpa using hx) h hs hg
theorem itemM_H {value slice : Expr} {a : Addr} {l : List Value} {u : Tok} {x : Value} {Q : Value → Shared → Prop} (hl : s.heap.IsList a l.toArray)
    (hx : l.getLast? = some x) (hz : l.length ≤ 1000000) (h : Q x s)
    (hs : subscripted slice false (.ref a) (.int (-1) u) = operate [.ref a, .int (-1) u] (getItem (.ref a) (.int (-1) u))) (hg : ∀ r, letTemporaryGo value (.ref a) r = pure ()) :
    wpAny (model prog w) A (subscriptTail value slice (.ref a) (.int (-1) u)) Q E s := by
  have hne : l ≠ [] := fun e => by rw [e] at hx; cases hx
  have hpos : 0 < l.length := List.length_pos_iff.mpr hne
  refine subscriptTail_builtin hl.typeIs slot_list_getitem.lookup (wpAny_getItem_list_neg hl (by decide) (by rw [List.size_toArray]; omega) (by decide) ?_ h) hs hg
  rw [List.size_toArray, show ((-1 : Int) + (l.length : Int)).toNat = l.length - 1 by omega]
  rw [List.getLast?_eq_getElem?] at hx
  simpa using hx
end
theorem head_name {g h : Heap} {L : Addr} {x : Addr × Obj} {l : List (Addr × Obj)} (_ : News g L h (x :: l)) : ∃ D, D = x.1 := ⟨_, rfl⟩
/-- the last child whose words hold a and b, of those that stand from place k on -/
def lowF (a b : Nat) : Nat → Option Nat → List D → Option Nat
  | _, o, [] => o
  | k, o, d :: r => lowF a b (k + 1) (if a ∈ d.leaves ∧ b ∈ d.leaves then some k else o) r
theorem lowF_snoc (a b : Nat) (d : D) : ∀ (ds : List D) (k : Nat) (o : Option Nat), lowF a b k o (ds ++ [d]) = if a ∈ d.leaves ∧ b ∈ d.leaves then some (k + ds.length) else lowF a b k o ds
  | [], k, o => rfl
  | x :: r, k, o => by
    simp only [List.cons_append, lowF, List.length_cons]
    rw [lowF_snoc a b d r (k + 1), show k + 1 + r.length = k + (r.length + 1) by omega]
theorem lowF_some {a b j : Nat} : ∀ (ds : List D) (k : Nat) (o : Option Nat), lowF a b k o ds = some j → o = some j ∨ (k ≤ j ∧ ∃ d, ds[j - k]? = some d ∧ a ∈ d.leaves ∧ b ∈ d.leaves)
  | [], k, o, h => .inl h
  | d :: r, k, o, h => by
    rw [lowF] at h
    rcases lowF_some r (k + 1) _ h with h1 | ⟨h1, d', h2, h3⟩
    · by_cases q : a ∈ d.leaves ∧ b ∈ d.leaves
      · rw [if_pos q] at h1
        cases h1
        exact .inr ⟨Nat.le_refl _, d, by simp, q⟩
      · rw [if_neg q] at h1
        exact .inl h1
    · refine .inr ⟨by omega, d', ?_, h3⟩
      rw [show j - k = (j - (k + 1)) + 1 by omega]
      simpa using h2
def lowV : Option Nat → Tok → Value
  | none, _ => .none
  | some k, t => .int (k : Int) t
/-- going down from a part, as long as one child holds both words -/
inductive Down (a b : Nat) : D → List Nat → List D → Prop
  | leaf {i : Nat} : Down a b (.leaf i) [] []
  | stop {lab : Str} {ds : List D} : lowF a b 0 none ds = none → Down a b (.node lab ds) [] [.node lab ds]
  | go {lab : Str} {ds : List D} {k : Nat} {d : D} {p : List Nat} {M : List D} : lowF a b 0 none ds = some k → ds[k]? = some d → Down a b d p M → Down a b (.node lab ds) (k :: p) (.node lab ds :: M)
/-- a pair of a part's label and its words -/
inductive MetAt (h : Heap) (v : Value) (d : D) : Prop
  | mk (t : Addr) (r : Addr) (lab : Str) (ds : List D) (tl : Tok) (ws : List Value) (k : Nat) (f19 : v = .ref t) (f29 : d = .node lab ds) (f39 : h.get? t = some (tupO #[.str lab tl, .ref r])) (f49 : h.get? r = some (W.listOf ws.toArray k)) (f59 : Words ws d.leaves) : MetAt h v d
theorem MetAt.up {h h' : Heap} {v : Value} {d : D} (T : MetAt h v d) (u : h.StaysIn h') : MetAt h' v d :=
  let ⟨t, r, lab, ds, tl, ws, k, e1, e2, e3, e4, e5⟩ := T; ⟨t, r, lab, ds, tl, ws, k, e1, e2, u _ _ e3, u _ _ e4, e5⟩
inductive Mets (h : Heap) : List Value → List D → Prop
  | nil : Mets h [] []
  | cons {v : Value} {d : D} {vs : List Value} {ds : List D} : MetAt h v d → Mets h vs ds → Mets h (v :: vs) (d :: ds)
theorem Mets.up {h h' : Heap} {vs : List Value} {ds : List D} (T : Mets h vs ds) (u : h.StaysIn h') : Mets h' vs ds := by
  induction T with
  | nil => exact .nil
  | cons a _ ih => exact .cons (a.up u) ih
theorem Mets.snoc {h : Heap} {vs : List Value} {ds : List D} {v : Value} {d : D} (T : Mets h vs ds) (m : MetAt h v d) : Mets h (vs ++ [v]) (ds ++ [d]) := by
  induction T with
  | nil => exact .cons m .nil
  | cons a _ ih => exact .cons a ih
theorem Mets.length {h : Heap} {vs : List Value} {ds : List D} (T : Mets h vs ds) : vs.length = ds.length := by
  induction T with
  | nil => rfl
  | cons a _ ih => simp [ih]
end
noncomputable section
theorem enterC {L₀ : Addr} {w : World} {A : Around} {R : Result → Shared → Prop} {s : Shared} {f : Addr} {args : Args} {binds : List (Str × Value)} {K : Frag}
    {name qual : Str} {params : Arguments} {body : List Stmt} {scope : Scope} {dV kV doc pm cdv ct oc : Value} {an od : Option Addr} {osl : Array (Option Value)}
    (X : K.In s.heap) (hlim : s.heap.NoLimit) 
    (ho : K.lookup f = some ⟨oc, od, .func (fnOf name qual params body scope dV kV doc pm an cdv ct), osl⟩) (hcd : codeIn K cdv qual = true) (hroom : A.depth < recursionLimit)
    (hbind : BindsTo s (fnOf name qual params body scope dV kV doc pm an cdv ct) args binds) (hkind : (binds.all fun y => scope.names.lookup y.1 == some .local || scope.names.lookup y.1 == some .cell) = true)
    (hnd : ((cellsFrom 0 scope.names []).map (·.1)).Nodup)
    (h : ∀ h₁ tk cells, Fr s.heap L₀ h₁ (bindL (envOfC qual scope L₀ f cdv).kindOf binds fun _ => none) → News s.heap L₀ h₁ cells →
      CellsAre (bindC (envOfC qual scope L₀ f cdv).kindOf binds fun _ => none) (cellsFrom (L₀ + 1) scope.names []) cells → s.heap.StaysIn h₁ →
      wpAny (model prog w) (A.deeper (envOfC qual scope L₀ f cdv)) (execs body (envOfC qual scope L₀ f cdv))
        (fun fl s' => R (.ok (.ret (match fl with | .ret v => v | _ => .none))) s') (fun _ _ => False) { s with heap := h₁, toks := tk })
    (hco : scope.isCoroutine = false := by exact rfl) (hgen : scope.isGenerator = false := by exact rfl) (hk : scope.kind = .function := by exact rfl) (eL : L₀ = s.heap.objs.size := by exact rfl) : codeAny (model prog w) A (.call (.ref f) args) R s := by
  subst eL
  refine codeAny_call_function hroom (X _ _ ho) rfl hco hgen rfl (codeRec_of X hcd) (hbind _ _ _ _ ?_)
  refine wpAny_newFunctionEnv_cells hk (kindsX hkind _) fun env' he s' x => ?_
  subst he
  refine ⟨hlim.keeps x.toInCall.keep, codeAny_func ?_⟩
  obtain ⟨h₁, tk, rfl, _⟩ := x.done
  have hk₁ := x.toInCall.keep
  obtain ⟨cells, NC, Y⟩ := Cl.news (h₀ := s.heap) (Nat.le_refl _) fun n c hm => ⟨x.cell n c (lookup_of_mem_nodup (cellsFrom_names scope.names 0 (s.heap.objs.size + 1) [] [] rfl ▸ hnd) hm), x.above n c hm⟩
  refine wpAny_mono (h h₁ tk cells ⟨x.toInCall.ns, fun b o e => hk₁ b o e, Nat.le_refl _⟩ (fun p hp => ⟨(NC p hp).1, (NC p hp).2.1, (NC p hp).2.2⟩) Y hk₁) (fun fl s' hl => hl) fun _ _ y => y.elim
end
theorem refreezeA {g h S : Heap} {L : Addr} {m : Str → Option Value} {news : List (Addr × Obj)} (cs : List (Addr × Obj)) (AL : List Addr) (e : cs.map (·.1) = AL) (F : Fr g L h m) (N : News g L h news) (hc : ∀ p ∈ cs, p ∈ news) (ht : ∀ p ∈ frz g S, p ∈ news) (u : g.StaysIn S)
    (offL : S.get? L = none) (off : ∀ q ∈ AL, S.get? q = none) :
    ∃ S', News g L h (cs ++ frz g S') ∧ g.StaysIn S' ∧ S.StaysIn S' ∧ S'.get? L = none ∧ (∀ q ∈ AL, S'.get? q = none) ∧ (∀ b o, h.get? b = some o → b ≠ L → b ∉ AL → S'.get? b = some o) ∧ S'.StaysIn h := by
  subst e
  obtain ⟨S', a1, a2, a3, a4, a5, a6, a7⟩ := refreeze cs F N hc ht u offL (fun p hp => off _ (List.mem_map_of_mem hp))
  refine ⟨S', a1, a2, a3, a4, fun q hq => ?_, fun b o e n1 n2 => a6 b o e n1 fun p hp q => n2 (q ▸ List.mem_map_of_mem hp), a7⟩
  obtain ⟨p, hp, rfl⟩ := List.mem_map.mp hq
  exact a5 p hp
theorem newer_frzA {g h h' S' : Heap} {L : Addr} {m : Str → Option Value} {AL : List Addr} (F : Fr g L h m) (hc : ∀ q ∈ AL, ∃ o, h.get? q = some o)
    (o3 : ∀ b o, h'.get? b = some o → b ≠ L → b ∉ AL → S'.get? b = some o) : (newer h h').StaysIn (newer g S') := fun b o e => by
  obtain ⟨e1, e2⟩ := newer_iff.mp e
  refine newer_iff.mpr ⟨?_, o3 b o e2 (fun q => ?_) (fun hm => ?_)⟩
  · cases q : g.get? b with
    | none => rfl
    | some x => have := F.keep _ _ q; rw [e1] at this; cases this
  · obtain ⟨x, _, _, e', _⟩ := F.ns
    rw [← q, e1] at e'; cases e'
  · obtain ⟨o', e'⟩ := hc b hm
    rw [e1] at e'; cases e'
theorem refreezeP {g h S : Heap} {L : Addr} {m : Str → Option Value} (pre cs : List (Addr × Obj)) (AL : List Addr) (e : cs.map (·.1) = AL) (F : Fr g L h m) (N : News g L h (pre ++ (cs ++ frz g S))) (u : g.StaysIn S)
    (offL : S.get? L = none) (off : ∀ q ∈ AL, S.get? q = none) :
    ∃ S', News g L h (cs ++ frz g S') ∧ g.StaysIn S' ∧ S.StaysIn S' ∧ S'.get? L = none ∧ (∀ q ∈ AL, S'.get? q = none) ∧ (∀ b o, h.get? b = some o → b ≠ L → b ∉ AL → S'.get? b = some o) ∧ S'.StaysIn h :=
  refreezeA cs AL e F N (fun p hp => List.mem_append_right _ (List.mem_append_left _ hp)) (fun p hp => List.mem_append_right _ (List.mem_append_right _ hp)) u offL off
theorem htL_append (a b : List D) : htL (a ++ b) = max (htL a) (htL b) := by
  induction a with
  | nil => simp [htL]
  | cons x r ih => simp only [List.cons_append, htL, ih]; exact (Nat.max_assoc _ _ _).symm
theorem sizeL_append (a b : List D) : sizeL (a ++ b) = sizeL a + sizeL b := by
  induction a with
  | nil => simp [sizeL]
  | cons x r ih => simp only [List.cons_append, sizeL, ih]; omega
/-- the addresses of a ledger's head stand in the heap -/
theorem News.there {g h : Heap} {L : Addr} {news : List (Addr × Obj)} (N : News g L h news) (cs : List (Addr × Obj)) (hc : ∀ p ∈ cs, p ∈ news) : ∀ q ∈ cs.map (·.1), ∃ o, h.get? q = some o := fun q hq => by
  obtain ⟨p, hp, rfl⟩ := List.mem_map.mp hq
  exact ⟨_, (N p (hc p hp)).1⟩
theorem News.offs {g h : Heap} {L : Addr} {news : List (Addr × Obj)} {AL : List Addr} (N : News g L h news) (e : news.map (·.1) = AL) : ∀ q ∈ AL, g.get? q = none := fun q hq => by
  subst e
  obtain ⟨p, hp, rfl⟩ := List.mem_map.mp hq
  exact (N p hp).2.2
theorem News.thereA {g h : Heap} {L : Addr} {news : List (Addr × Obj)} {AL : List Addr} (N : News g L h news) (e : news.map (·.1) = AL) : ∀ q ∈ AL, ∃ o, h.get? q = some o := fun q hq => by
  subst e
  obtain ⟨p, hp, rfl⟩ := List.mem_map.mp hq
  exact ⟨_, (N p hp).1⟩
theorem ints_name {vs : List Value} {ns : List Int} (_ : IntsAre vs ns) : ∃ v, v = vs := ⟨_, rfl⟩
theorem cutF {M : Model} {A : Around} {α : Type} {E : Value → Shared → Prop} {t : Sem α} {s : Shared} {g h : Heap} {L : Addr} {m : Str → Option Value} {Q : α → Shared → Prop} (_ : Fr g L h m) (P : (Str → Option Value) → α → Shared → Prop)
    (h1 : wpAny M A t (P m) (fun _ _ => False) s) (h2 : ∀ a s', P m a s' → Q a s') : wpAny M A t Q E s := wpAny_mono h1 h2 fun _ _ x => x.elim
theorem thaw {g h S : Heap} {L pl : Addr} {m : Str → Option Value} {cs : List (Addr × Obj)} {o : Obj} (F : Fr g L h m) (N : News g L h (cs ++ frz g S)) (u : g.StaysIn S) (e : S.get? pl = some o) (n : g.get? pl = none) :
    ∃ S', News g L h ((pl, o) :: (cs ++ frz g S')) ∧ g.StaysIn S' ∧ S'.get? pl = none ∧ (∀ b x, b ≠ pl → S.get? b = some x → S'.get? b = some x) ∧ S'.StaysIn S := by
  refine ⟨hideAll S [pl], fun p hp => ?_, fun b x hb => hideAll_get _ (u b x hb) (fun hm => ?_), hideAll_none _ (.head _), fun b x nb hb => hideAll_get _ hb (fun hm => nb (List.mem_singleton.mp hm)), hide_up _ _⟩
  · rcases List.mem_cons.mp hp with rfl | hp
    · exact N _ (List.mem_append_right _ (mem_frz.mpr ⟨n, e⟩))
    · rcases List.mem_append.mp hp with hp | hp
      · exact N p (List.mem_append_left _ hp)
      · obtain ⟨h1, h2⟩ := mem_frz.mp hp
        exact N p (List.mem_append_right _ (mem_frz.mpr ⟨h1, of_hideAll _ h2⟩))
  · rw [List.mem_singleton.mp hm, n] at hb; cases hb
/-- what holds behind «if words == []» -/
inductive AfterIf (s : Shared) (L' hand words scr a : Addr) (hl sl : Obj) (m : Str → Option Value) (fl : Flow) (s' : Shared) : Prop
  | mk (f19 : fl = .next) (h' : Heap) (tk' : Nat) (ws : List Value) (kw : Nat) (c4 c3 c2 c1 : Obj) (S : Heap) (d : D) (N : Nat) (f29 : s' = { s with heap := h', toks := tk' }) (f39 : Fr s.heap L' h' m) (f49 : News s.heap L' h' ([(hand, hl), (words, W.listOf ws.toArray kw), (scr, sl), (L' + 1 + 1 + 1 + 1, c4), (L' + 1 + 1 + 1, c3), (L' + 1 + 1, c2), (L' + 1, c1)] ++ frz s.heap S)) (f59 : c1.data = .cell (some (.ref words))) (f69 : c4.data = .cell none) (f79 : c3.data = .cell none) (f89 : c2.data = .cell none) (f99 : s.heap.StaysIn S) (f109 : S.get? L' = none) (f119 : (∀ q ∈ [hand, words, scr, L' + 1 + 1 + 1 + 1, L' + 1 + 1 + 1, L' + 1 + 1, L' + 1], S.get? q = none)) (f129 : DrawnAt (newer s.heap S) (.ref a) d) (f139 : d.leaves = List.range N) (f149 : 0 < N) (f159 : Words ws (List.range N)) (f169 : d.ht ≤ 5) (f179 : d.size ≤ 400) (f189 : ∃ lab ds, d = .node lab ds) : AfterIf s L' hand words scr a hl sl m fl s'
section
open PySem.MeetsSeq PySem.SeqAt
theorem tupIs {h : Heap} {a : Addr} {xs : List Value} (e : h.get? a = some (tupO xs.toArray)) : h.IsTuple a xs.toArray := ⟨_, e, rfl, _, rfl⟩
theorem all_true (n : Nat) : ((List.range n).all fun _ => true) = true := by simp
theorem ints_at {A : Around} {s : Shared} {xs ys : List Value} {ns : List Int} (hx : IntsAre xs ns) (hy : IntsAre ys ns) (j : Nat) (h1 : j < xs.length) (h2 : j < ys.length) : EqAt A s xs[j] ys[j] true := by
  have l1 := hx.length
  obtain ⟨t, e1⟩ := hx.get j ns[j] (List.getElem?_eq_getElem (by omega))
  obtain ⟨u, e2⟩ := hy.get j ns[j] (List.getElem?_eq_getElem (by omega))
  rw [(List.getElem?_eq_some_iff.mp e1).2, (List.getElem?_eq_some_iff.mp e2).2]
  have := (EqGives.int ns[j] ns[j] t u).at A s
  rwa [beq_self_eq_true] at this
theorem words_at {A : Around} {s : Shared} {xs ys : List Value} {is : List Nat} (hx : Words xs is) (hy : Words ys is) (j : Nat) (h1 : j < xs.length) (h2 : j < ys.length) : EqAt A s xs[j] ys[j] true := by
  have l1 := hx.length
  have e0 : is[j]? = some is[j] := List.getElem?_eq_getElem (by omega)
  obtain ⟨t, e1⟩ := hx.get e0
  obtain ⟨u, e2⟩ := hy.get e0
  rw [(List.getElem?_eq_some_iff.mp e1).2, (List.getElem?_eq_some_iff.mp e2).2]
  have := (eqGives_str (wordStr is[j]) (wordStr is[j]) t u).at A s
  rwa [beq_self_eq_true] at this
section
variable {w : World} {A : Around} {E : Value → Shared → Prop} {s : Shared}
theorem ints_ne {a b : Addr} {xs ys : List Value} {ns : List Int} {Q : Value → Shared → Prop} (ha : s.heap.get? a = some (tupO xs.toArray)) (hb : s.heap.get? b = some (tupO ys.toArray)) (hx : IntsAre xs ns) (hy : IntsAre ys ns) (hu : A.units < cLine)
    (h : Q (.bool false) s) : wpAny (model prog w) A (compareOp .NotEq (.ref a) (.ref b)) Q E s := by
  have k := RcNeAt.tuples (A := A) (e := fun _ => true) (tupIs ha) (tupIs hb) hu (fun j h1 h2 => by
    have := ints_at (A := A.in1) (s := s) hx hy j (by simpa using h1) (by simpa using h2)
    simpa using this)
  rw [all_true, Bool.true_and, List.size_toArray, List.size_toArray, hx.length, hy.length, beq_self_eq_true] at k
  exact cmp_ofNotEq (k prog w E Q h)
theorem met_at {A : Around} {v u : Value} {d : D} (hu : A.units + 5 < cLine) (m : MetAt s.heap v d) (n : MetAt s.heap u d) : EqAt A s v u true := by
  obtain ⟨t, r, lab, ds, tl, ws, k, rfl, rfl, e3, e4, e5⟩ := m
  obtain ⟨t', r', lab', ds', tl', ws', k', rfl, e2, e3', e4', e5'⟩ := n
  cases e2
  by_cases q : t = t'
  · subst q; exact EqAt.same _
  · refine EqAt.of_refs q ?_
    have k := RcAt.tuples (A := A) (e := fun _ => true) (tupIs (xs := [_, _]) e3) (tupIs (xs := [_, _]) e3') (by omega) (fun j h1 h2 => by
      match j, h1, h2 with
      | 0, _, _ =>
        have := (eqGives_str lab lab tl tl').at A.in1 s
        rw [beq_self_eq_true] at this
        exact this
      | 1, _, _ =>
        show EqAt A.in1 s (.ref r) (.ref r') true
        by_cases q : r = r'
        · subst q; exact EqAt.same _
        · refine EqAt.of_refs q ?_
          have k := RcAt.lists (A := A.in1) (e := fun _ => true) (isList_at e4) (isList_at e4') (by rw [List.size_toArray, List.size_toArray, e5.length, e5'.length]) (show A.units + 1 < cLine by omega) (fun j h1 h2 => by
            have := words_at (A := A.in1.in1) (s := s) e5 e5' j (by simpa using h1) (by simpa using h2)
            simpa using this)
          rwa [all_true] at k
      | j + 2, h1, _ => exact absurd (show j + 2 < 2 from h1) (by omega))
    rwa [all_true] at k
theorem mets_get {h : Heap} {vs : List Value} {ds : List D} (m : Mets h vs ds) : ∀ (j : Nat) (v : Value) (d : D), vs[j]? = some v → ds[j]? = some d → MetAt h v d := by
  induction m with
  | nil => intro j v d e; simp at e
  | cons a _ ih =>
    intro j v d e1 e2
    cases j with
    | zero => simp at e1 e2; subst e1; subst e2; exact a
    | succ j => exact ih j v d (by simpa using e1) (by simpa using e2)
theorem mets_ne {l b : Addr} {xs ys : List Value} {M : List D} {Q : Value → Shared → Prop} (hl : s.heap.IsList l xs.toArray) (hb : s.heap.IsList b ys.toArray) (hx : Mets s.heap xs M) (hy : Mets s.heap ys M) (hu : A.units + 6 < cLine)
    (h : Q (.bool false) s) : wpAny (model prog w) A (compareOp .NotEq (.ref l) (.ref b)) Q E s := by
  have k := RcNeAt.lists (A := A) (e := fun _ => true) hl hb (by rw [List.size_toArray, List.size_toArray, hx.length, hy.length]) (by omega) (fun j h1 h2 => by
    have l1 := hx.length
    have l2 := hy.length
    have g1 : j < xs.length := by simpa using h1
    have g2 : j < ys.length := by simpa using h2
    have gd : M[j]? = some (M[j]'(by omega)) := List.getElem?_eq_getElem (by omega)
    have := met_at (s := s) (A := A.in1) (show A.units + 1 + 5 < cLine by omega) (mets_get hx j _ _ (List.getElem?_eq_getElem g1) gd) (mets_get hy j _ _ (List.getElem?_eq_getElem g2) gd)
    simpa using this)
  rw [all_true, Bool.not_true] at k
  exact cmp_ofNotEq (k prog w E Q h)
end
end
noncomputable section
/-- the objects of h at the addresses that P takes -/
def only (h : Heap) (P : Addr → Bool) : Heap := hideAll h ((List.range h.objs.size).filter fun b => !P b)
theorem only_iff {h : Heap} {P : Addr → Bool} {b : Addr} {o : Obj} : (only h P).get? b = some o ↔ h.get? b = some o ∧ P b = true := by
  constructor
  · intro e
    have e' := of_hideAll _ e
    refine ⟨e', ?_⟩
    cases q : P b with
    | true => rfl
    | false =>
      have hm : b ∈ (List.range h.objs.size).filter fun b => !P b := List.mem_filter.mpr ⟨List.mem_range.mpr (Heap.lt_size e'), by rw [q]; rfl⟩
      rw [only, hideAll_none _ hm] at e
      cases e
  · rintro ⟨e, p⟩
    refine hideAll_get _ e fun hm => ?_
    have := (List.mem_filter.mp hm).2
    rw [p] at this; cases this
theorem only_size (h : Heap) (P : Addr → Bool) : (only h P).objs.size = h.objs.size := hideAll_size _ _
theorem only_sub (h : Heap) (P : Addr → Bool) : (only h P).StaysIn h := fun _ _ e => (only_iff.mp e).1
theorem only_none {h : Heap} {P : Addr → Bool} {b : Addr} (p : P b = false) : (only h P).get? b = none := by
  cases e : (only h P).get? b with
  | none => rfl
  | some o => have := (only_iff.mp e).2; rw [p] at this; cases this
/-- what is to be shown behind the source (a generator) of a one-clause list comprehension -/
inductive GenGo (w : World) (A : Around) (env : Env) (scope : Scope) (cl : List (Str × Addr)) (elt : Expr) (x y : Str) (Q : Flow → Shared → Prop) (xv : Value) (s₁ : Shared) : Prop
  | mk (a : Addr) (gn : Nat) (V : List Value) (g B : Heap) (X0 : List Addr) (J : Nat → List Value → Heap → Prop) (mL : Str → Option Value) (f19 : g.Ns env.locals mL) (f29 : xv = .ref a) (f39 : s₁.heap.IsGen a gn) (f49 : g.NoLimit) (f59 : V.length ≤ 1000000) (f69 : g.StaysIn s₁.heap) (f79 : g.objs.size ≤ s₁.heap.objs.size) (f89 : (∀ b o, g.get? b = some o → (B.get? b).isSome = true ∨ b ∈ X0)) (f99 : J 0 [] g) (f109 : (∀ D' C s₂, D' = s₁.heap.objs.size → C = D' + 1 → s₁.heap.StaysIn s₂.heap → s₂.gens = s₁.gens → (∃ o, s₂.heap.get? D' = some o) → (∃ o, s₂.heap.get? C = some o) → GAt w A.in1 B V (D' :: C :: X0) [] a gn V.length s₂)) (f119 : (∀ D' C i v (m : Str → Option Value) (acc : List Value) ep S' H h tk gs, D' = s₁.heap.objs.size → C = D' + 1 → V[i]? = some v → J i acc S' → g.StaysIn S' → S'.StaysIn H → H.get? D' = none → H.get? C = none → (∀ b o, S'.get? b = some o → priv o = false ∨ (g.get? b).isSome = true) →
      Fr g C h (fun y => if y = x then some v else m y) → News g C h ((D', W.listOf acc.toArray ep) :: frz g H) →
      wpAny (model prog w) A (eval elt (compEnvC scope cl C env)) (fun y s₄ => Stop (∃ h' tk' m' S'', s₄ = { s₁ with heap := h', toks := tk', gens := gs } ∧ Fr g C h' m' ∧ News g C h' ((D', W.listOf acc.toArray ep) :: frz g H) ∧
        S''.StaysIn h' ∧ g.StaysIn S'' ∧ S''.get? D' = none ∧ S''.get? C = none ∧ (∀ b o, S''.get? b = some o → priv o = false ∨ (g.get? b).isSome = true) ∧ J (i + 1) (acc ++ [y]) S'')) (fun _ _ => False) { s₁ with heap := h, toks := tk, gens := gs })) (f129 : (∀ D' (acc : List Value) ep S' h' tk gs, D' = s₁.heap.objs.size → J V.length acc S' → g.StaysIn S' → S'.get? D' = none → (∀ b o, b ≠ env.locals → S'.get? b = some o → h'.get? b = some o) → h'.Ns env.locals (fun z => if z = y then some (.ref D') else mL z) → h'.get? D' = some (W.listOf acc.toArray ep) → (AllBare s₁.gens → AllBare gs) → Q .next { s₁ with heap := h', toks := tk, gens := gs })) : GenGo w A env scope cl elt x y Q xv s₁
theorem assign_genComp {w : World} {A : Around} {E : Value → Shared → Prop} {s : Shared} {env : Env} {elt iter : Expr} {x y : Str} {px py : Pos} {scope : Scope} {cl : List (Str × Addr)} {pos spos : Pos} {Q : Flow → Shared → Prop} (hh : A.handled = none) (hroom : A.depth < recursionLimit)
    (hsw : swapsWith (.ListComp elt [⟨.Name x px, iter, [], 0⟩] scope pos) (some (.Name y py)) spos.line env = pure true) (hy : env.kindOf y = some .local) (hp0 : (env.scope.kind == .class || (env.scope.kind == .module && env.locals != env.globals)) = false)
    (hclos : closureFor scope env = pure cl) (hcell : ∀ y ∈ scope.names, y.2 ≠ .cell) (hkind : scope.kind = .function)
    (hnames : ∀ y ∈ scope.names, y.2 = .local → scope.names.lookup y.1 = some .local) (hx : scope.names.lookup x = some .local)
    (h : wpAny (model prog w) A (eval iter env) (fun xv s₁ => Stop (GenGo w A env scope cl elt x y Q xv s₁)) (fun _ _ => False) s)
    (hs : ∀ x, foldedSetIterable iter env x = pure x := by intro _; rfl) :
    wpAny (model prog w) A (exec (.Assign [.Name y py] (.ListComp elt [⟨.Name x px, iter, [], 0⟩] scope pos) spos) env) Q E s := by
  rw [exec_Assign_Name_used _ _ _ _ hsw]
  refine wpAny_bind (wpAny_standAt (wpAny_bind ?_))
  show wpAny _ A (do let _ ← comprehension (.ListComp elt [⟨.Name x px, iter, [], 0⟩] scope pos) scope env _ (newList []) false (eval iter env) (some (assign (.Name y py) env))) _ _ s
  refine wpAny_bind (wpAny_mono (wpAny_comprehension_free (use := some (assign (.Name y py) env)) (Q := fun _ s' => Q .next s') rfl hs hclos hkind hnames
    (wpAny_mono h (fun xv s₁ h₁ => ?_) fun _ _ e => e.elim)) (fun _ s' hq => wpAny_pure (wpAny_pure hq)) fun _ _ e => e)
  obtain ⟨a, gn, V, g, B, X0, J, mL, hnsL, rfl, hgen, hnl, hVl, gs1, gsz, hgB, hJ0, mk, turn, done⟩ := h₁
  refine wpAny_pyIter_gen hgen ?_
  refine wpAny_newObj_type (hd := by size_fits) (wpAny_newFunctionEnv hcell (by intro y hy; simp at hy) (fun h₁ hns₁ hsb₁ => ?_) hkind)
  dsimp only at hns₁ hsb₁ ⊢
  generalize hH2 : s₁.heap.push { cls := .type "list", dict := none, data := .seq ([] : List Value).toArray } = H2 at hns₁ hsb₁ ⊢
  have sz2 : H2.objs.size = s₁.heap.objs.size + 1 := by rw [← hH2, Heap.size_push]
  have st1 : s₁.heap.StaysIn h₁ := fun b o e => hsb₁.extBut b o (by have := Heap.lt_size e; rw [sz2]; exact Nat.ne_of_lt (Nat.lt_succ_of_lt this)) (Heap.get?_push_of_some _ (hH2 ▸ Heap.get?_push_of_some _ e))
  have hD1 : h₁.get? s₁.heap.objs.size = some (W.listOf #[] 0) :=
    hsb₁.extBut _ _ (by rw [sz2]; exact Nat.ne_of_lt (Nat.lt_succ_self _)) (Heap.get?_push_of_some _ (hH2 ▸ Heap.get?_push_size s₁.heap (o := { cls := .type "list", dict := none, data := .seq ([] : List Value).toArray }) rfl))
  have fresh : ∀ a, s₁.heap.objs.size ≤ a → s₁.heap.get? a = none := fun a ha => by
    cases e : s₁.heap.get? a with
    | none => rfl
    | some o' => exact absurd (Heap.lt_size e) (Nat.not_lt.mpr ha)
  have gfresh : ∀ a, s₁.heap.objs.size ≤ a → g.get? a = none := fun a ha => by
    cases e : g.get? a with
    | none => rfl
    | some o' => have := gs1 _ _ e; rw [fresh a ha] at this; cases this
  rw [sz2] at hns₁ hsb₁ ⊢
  have F0 : Fr g (s₁.heap.objs.size + 1) h₁ (fun _ => none) := ⟨hns₁, fun b o e => st1 b o (gs1 b o e), by omega⟩
  have gD := gfresh s₁.heap.objs.size (Nat.le_refl _)
  have gC := gfresh (s₁.heap.objs.size + 1) (Nat.le_succ _)
  have hC1 : ∃ o, h₁.get? (s₁.heap.objs.size + 1) = some o := let ⟨o, _, _, e, _⟩ := hns₁; ⟨o, e⟩
  have mk' := mk _ _ { s₁ with heap := h₁ } rfl rfl st1 rfl ⟨_, hD1⟩ hC1
  have turn' := turn s₁.heap.objs.size (s₁.heap.objs.size + 1)
  have done' := done s₁.heap.objs.size
  generalize hD : s₁.heap.objs.size = D' at *
  clear mk turn done hns₁ hsb₁
  have hLC : env.locals ≠ D' + 1 := fun q => by obtain ⟨o, _, _, ho, _⟩ := hnsL; rw [q, gC] at ho; cases ho
  have hLD : env.locals ≠ D' := fun q => by obtain ⟨o, _, _, ho, _⟩ := hnsL; rw [q, gD] at ho; cases ho
  have hDC : D' ≠ D' + 1 := Nat.ne_of_lt (Nat.lt_succ_self _)
  have loop : ∀ s₃ : Shared, s₃ = { s₁ with heap := h₁, toks := s₁.toks } → 
      codeAny (model prog w) A (.compLoop (.ListComp elt [⟨.Name x px, iter, [], 0⟩] scope pos) 0 (.ref a) (.ref D') (compEnvC scope cl (D' + 1) env))
        (compPost (model prog w) A E (some (assign (.Name y py) env)) (fun _ s' => Q .next s') (.ref D') (D' + 1)) s₃ := by
    rintro s₃ rfl
    refine codeAny_compLoop_tests (fun k s' => ∃ i h tk gs m acc ep S', s' = { s₁ with heap := h, toks := tk, gens := gs } ∧ i ≤ V.length ∧ k = V.length + 1 - i ∧ acc.length = i ∧ GAt w A.in1 B V (D' :: (D' + 1) :: X0) [] a gn (V.length - i) s' ∧ Fr g (D' + 1) h m ∧
        h.get? D' = some (W.listOf acc.toArray ep) ∧ S'.StaysIn h ∧ g.StaysIn S' ∧ S'.get? D' = none ∧ S'.get? (D' + 1) = none ∧ (∀ b o, S'.get? b = some o → priv o = false ∨ (g.get? b).isSome = true) ∧ J i acc S' ∧ (AllBare s₁.gens → AllBare gs)) ?_ (V.length + 1)
      ⟨0, h₁, s₁.toks, s₁.gens, _, [], 0, g, rfl, Nat.zero_le _, rfl, rfl, mk', F0, hD1, fun b o e => st1 b o (gs1 b o e), stays_refl _, gD, gC, fun b o e => .inr (by rw [e]; rfl), hJ0, id⟩
    rintro k s' ⟨i, h, tk, gs, m, acc, ep, S', rfl, hi, rfl, hac, G, F, hDl, sS, gS, nD, nC, hpv, hJ, hbare⟩
    have mvkeep : ∀ {s' : Shared}, Mv B (D' :: (D' + 1) :: X0) { s₁ with heap := h, toks := tk, gens := gs } s' → Fr g (D' + 1) s'.heap m ∧ s'.heap.get? D' = some (W.listOf acc.toArray ep) ∧ S'.StaysIn s'.heap := fun {s'} mv => by
      have kg : ∀ b o, g.get? b = some o → h.get? b = some o → s'.heap.get? b = some o := fun b o e e' => by
        rcases hgB b o e with q | q
        · exact mv.heap b o e' (.inr (.inr q))
        · exact mv.heap b o e' (.inr (.inl (.tail _ (.tail _ q))))
      refine ⟨⟨?_, fun b o e => kg b o e (F.keep b o e), F.above⟩, mv.heap _ _ hDl (.inr (.inl (.head _))), fun b o e => ?_⟩
      · obtain ⟨o, es, ep, e, r⟩ := F.ns
        exact ⟨o, es, ep, mv.heap _ _ e (.inr (.inl (.tail _ (.head _)))), r⟩
      · rcases hpv b o e with q | q
        · exact mv.heap b o (sS b o e) (.inl q)
        · obtain ⟨o', e'⟩ := Option.isSome_iff_exists.mp q
          have := gS _ _ e'
          rw [e] at this; cases this
          exact kg b o e' (sS b o e)
    refine GAt.next hh (hnl.keeps F.keep) hroom G (fun h0 s' mv => ?_) (fun mm v s' hm hV mv G' => ?_)
    · obtain ⟨F', hD', sS'⟩ := mvkeep mv
      obtain rfl : i = V.length := by omega
      obtain ⟨hp, gs', dr, tk', os⟩ := s'
      obtain rfl : dr = s₁.drawn := mv.drawn
      obtain rfl : os = s₁.os := mv.os
      dsimp only at F' hD' sS'
      have hnsL' := hnsL.at' (h' := hp) fun o e => F'.keep _ _ e
      refine wpAny_assign_Name (wpAny_storeName_local hy hnsL' (fun h₂ hn₂ hs₂ => ?_) hp0)
      refine ⟨m, F'.ns.sameBut hs₂ (Ne.symm hLC), fun h' hs' => ?_⟩
      exact done' acc ep S' h' _ gs' rfl hJ gS nD (fun b o nL e => hs'.extBut b o (fun q => by rw [q, nC] at e; cases e) (hs₂.extBut b o nL (sS' b o e))) (hn₂.sameBut hs' hLC)
        (hs'.extBut _ _ hDC (hs₂.extBut _ _ (Ne.symm hLD) hD')) (fun hb => mv.bare (hbare hb))
    · obtain ⟨F', hD', sS'⟩ := mvkeep mv
      obtain ⟨hp, gs', dr, tk', os⟩ := s'
      obtain rfl : dr = s₁.drawn := mv.drawn
      obtain rfl : os = s₁.os := mv.os
      have hVi : V.length - 1 - mm = i := by omega
      rw [hVi] at hV
      have hal := G'.4
      dsimp only at F' hD' sS' hal
      refine wpAny_assign_Name (wpAny_storeName_local (lookup_relabel_local hx) F'.ns (fun h₂ hn₂ hs₂ => ?_) (by simp [compEnvC, relabel, hkind]))
      have F2 := F'.set hn₂ hs₂
      have k2 : ∀ b o, b ≠ D' + 1 → hp.get? b = some o → h₂.get? b = some o := fun b o n e => hs₂.extBut b o n e
      have hD2 := k2 _ _ hDC hD'
      dsimp only
      simp only [List.forIn_nil]
      refine wpAny_pure ?_
      rw [if_pos rfl]
      have hHget : ∀ b o, b ≠ D' → b ≠ D' + 1 → h₂.get? b = some o → (hideAll h₂ [D', D' + 1]).get? b = some o := fun b o n1 n2 e => hideAll_get _ e fun hm => by
        rcases List.mem_cons.mp hm with q | hm
        · exact n1 q
        · exact n2 (List.mem_singleton.mp hm)
      have gH : g.StaysIn (hideAll h₂ [D', D' + 1]) := fun b o e => hHget b o (fun q => by rw [q, gD] at e; cases e) (fun q => by rw [q, gC] at e; cases e) (F2.keep b o e)
      have SH : S'.StaysIn (hideAll h₂ [D', D' + 1]) := fun b o e => by
        have n2 : b ≠ D' + 1 := fun q => by rw [q, nC] at e; cases e
        exact hHget b o (fun q => by rw [q, nD] at e; cases e) n2 (k2 b o n2 (sS' b o e))
      refine wpAny_mono (turn' i v m acc ep S' (hideAll h₂ [D', D' + 1]) h₂ _ gs' rfl rfl hV hJ gS SH (hideAll_none _ (.head _)) (hideAll_none _ (.tail _ (.head _))) hpv F2 (fun p hp => ?_)) (fun y s₄ h₄ => ?_) fun _ _ e => e.elim
      · rcases List.mem_cons.mp hp with rfl | hp
        · exact ⟨hD2, hDC, gD⟩
        · obtain ⟨e1, e2⟩ := mem_frz.mp hp
          refine ⟨of_hideAll _ e2, fun q => ?_, e1⟩
          rw [q, hideAll_none _ (.tail _ (.head _))] at e2
          cases e2
      · obtain ⟨h', tk', m', S'', rfl, F₃, N₃, sS3, gS3, nD3, nC3, hpv3, hJ3⟩ := h₄
        have Hh' : (hideAll h₂ [D', D' + 1]).StaysIn h' := up_of F₃ N₃ (fun p hp => .tail _ hp) gH
        refine append_at (hsz := by rw [List.size_toArray, sizeLine_eq]; omega) (N₃ (D', W.listOf acc.toArray ep) (.head _)).1 fun h₅ hs₅ ho₅ => ?_
        have k5 : ∀ b o, b ≠ D' → h'.get? b = some o → h₅.get? b = some o := fun b o n e => hs₅.extBut b o n e
        have F₅ : Fr g (D' + 1) h₅ m' := F₃.change hs₅ hDC gD
        rw [List.push_toArray] at ho₅
        refine ⟨V.length + 1 - (i + 1), by omega, i + 1, h₅, _, _, m', acc ++ [y], ep + 1, S'', rfl, by omega, rfl, by rw [List.length_append, hac]; rfl, ?_, F₅, ho₅, fun b o e => k5 b o (fun q => by rw [q, nD3] at e; cases e) (sS3 b o e), gS3, nD3, nC3, hpv3, hJ3, fun hb => mv.bare (hbare hb)⟩
        have e3 : V.length - (i + 1) = mm := by omega
        rw [e3]
        refine G'.move ⟨fun b o n e => ?_, fun _ _ _ => rfl, fun b hb => ?_, Nat.le_refl _⟩
        · have n1 : b ≠ D' := fun q => n (q ▸ .head _)
          have n2 : b ≠ D' + 1 := fun q => n (q ▸ .tail _ (.head _))
          exact k5 b o n1 (Hh' b o (hHget b o n1 n2 (k2 b o n2 e)))
        · by_cases n1 : b = D'
          · exact ⟨_, n1 ▸ ho₅⟩
          by_cases n2 : b = D' + 1
          · obtain ⟨o, _, _, e, _⟩ := F₅.ns; exact ⟨o, n2 ▸ e⟩
          obtain ⟨o, e⟩ := hal b hb
          exact ⟨o, k5 b o n1 (Hh' b o (hHget b o n1 n2 (k2 b o n2 e)))⟩
  exact codeAny_compStart_list (loop _ rfl) (wpAny_pyIter_gen (hgen.keeps st1) (loop _ rfl))
end
section
local macro_rules | `(tactic| k_ne) => `(tactic| (refine neN ?_; (try dsimp only); first | with_reducible assumption | (refine Ne.symm ?_; with_reducible assumption) | (refine Nat.ne_of_lt ?_; with_reducible assumption) | (refine Nat.ne_of_gt ?_; with_reducible assumption)))
local macro_rules | `(tactic| k_units) => `(tactic| first | exact Nat.le_of_ble_eq_true rfl | (have hcL9 := cLine_is; (try simp only [units_in1, units_deeper, Around.mark_units] at *); (try dsimp only at *); omega))
local macro_rules | `(tactic| k_room) => `(tactic| first | decide | ((try simp only [depth_under_make, depth_under_kw, depth_in1, depth_deeper, recursionLimit] at *); (try dsimp only at *); omega))
local macro_rules | `(tactic| k_inst) => `(tactic| (refine' inst_base ?F ?h1 ?h2; (case F => k_asm); (case h1 => assumption); (case h2 => assumption)))
local macro_rules | `(tactic| walk_at "exec For Name Attribute cons nil") => `(tactic| (k_here; refine stop ?_))
local macro_rules | `(tactic| walk_at "exec For Name Call cons nil") => `(tactic| (k_here; refine stop ?_))
local macro_rules | `(tactic| walk_at "pyIter ref") => `(tactic| (k_here; refine stop ?_))
local macro_rules | `(tactic| walk_at "call ref") => `(tactic| (k_here; refine stop ?_))
local macro_rules | `(tactic| walk_at "call builtin:list.append") => `(tactic| (k_here; refine stop ?_))
local macro_rules | `(tactic| walk_at "call builtin:list.append") => `(tactic| (k_here; (with_reducible show wpAny _ _ (call (Value.builtin _) [Value.ref _, _]) _ _ _); k_dflt (refine' append_K ?k1 ?k2 ?k3 ?_ ?z; (case k1 => k_asm); (case k2 => k_asm); (case k3 => k_upd); (case z => size_fits); k_whole); intro h' F' N'; (try k_sweep)))
local macro_rules | `(tactic| walk_at "call builtin:list.extend") => `(tactic| (k_here; refine stop ?_))
namespace CN1nextok
noncomputable section
abbrev Tup : Type := (World) × (Shared) × (Heap) × (ExcName → Option Value) × (Str → Option Value) × (Str → Option Value) × (Addr) × (Addr) × (Int) × (Int) × (Int) × (Tok) × (List Value) × (List Int) × (Value → Shared → Prop) × (Value → Shared → Prop) × (Nat) × (Option (List Env)) × (Option (List Code)) × (Nat)
def Pp : Tup → Prop := fun tt9 => (fun (w : World) (s : Shared) (B : Heap) (mean : ExcName → Option Value) (mg : Str → Option Value) (mb : Str → Option Value) (hand : Addr) (scr : Addr) (k : Int) (b : Int) (many : Int) (t3 : Tok) (vs : List Value) (ns : List Int) (Q : Value → Shared → Prop) (E : Value → Shared → Prop) (dp : Nat) (fr : Option (List Env)) (gd : Option (List Code)) (un : Nat) => ∀ (X : (hd.heap_1 w.params).In B) (T : TopH mean mg mb B) (U : B.StaysIn s.heap) (hd1 : (⟨none, dp, fr, gd, un⟩ : Around).depth + 10 < recursionLimit) (hu : (⟨none, dp, fr, gd, un⟩ : Around).units + 50 < cLine) (hH : HandAt s.heap hand scr k b) (hB : B.get? hand = none) (hne : scr ≠ hand) (hS : s.heap.IsList scr vs.toArray) (hI : IntsAre vs ns) (hl : ns.length ≤ 63) (hk0 : 0 ≤ k) (hk1 : k < 100000) (hm0 : 0 < many) (hm1 : many < 100000) (hQ : ∀ i t h' tk', 0 ≤ i → i < many → Kp [hand] s.heap h' → HandAt h' hand scr (k + 1) b → Q (.int i t) { s with heap := h', toks := tk' }), wpAny (model prog w) (⟨none, dp, fr, gd, un⟩ : Around) (call (.ref 163) [.ref hand, .int many t3]) Q E s) tt9.1 tt9.2.1 tt9.2.2.1 tt9.2.2.2.1 tt9.2.2.2.2.1 tt9.2.2.2.2.2.1 tt9.2.2.2.2.2.2.1 tt9.2.2.2.2.2.2.2.1 tt9.2.2.2.2.2.2.2.2.1 tt9.2.2.2.2.2.2.2.2.2.1 tt9.2.2.2.2.2.2.2.2.2.2.1 tt9.2.2.2.2.2.2.2.2.2.2.2.1 tt9.2.2.2.2.2.2.2.2.2.2.2.2.1 tt9.2.2.2.2.2.2.2.2.2.2.2.2.2.1 tt9.2.2.2.2.2.2.2.2.2.2.2.2.2.2.1 tt9.2.2.2.2.2.2.2.2.2.2.2.2.2.2.2.1 tt9.2.2.2.2.2.2.2.2.2.2.2.2.2.2.2.2.1 tt9.2.2.2.2.2.2.2.2.2.2.2.2.2.2.2.2.2.1 tt9.2.2.2.2.2.2.2.2.2.2.2.2.2.2.2.2.2.2.1 tt9.2.2.2.2.2.2.2.2.2.2.2.2.2.2.2.2.2.2.2
def cc : Tup := @Classical.epsilon Tup (nePair neWorld (nePair neShared (nePair (⟨default⟩ : Nonempty (Heap)) (nePair (⟨default⟩ : Nonempty (ExcName → Option Value)) (nePair (⟨default⟩ : Nonempty (Str → Option Value)) (nePair (⟨default⟩ : Nonempty (Str → Option Value)) (nePair (⟨default⟩ : Nonempty (Addr)) (nePair (⟨default⟩ : Nonempty (Addr)) (nePair (⟨default⟩ : Nonempty (Int)) (nePair (⟨default⟩ : Nonempty (Int)) (nePair (⟨default⟩ : Nonempty (Int)) (nePair (⟨default⟩ : Nonempty (Tok)) (nePair (⟨default⟩ : Nonempty (List Value)) (nePair (⟨default⟩ : Nonempty (List Int)) (nePair (⟨default⟩ : Nonempty (Value → Shared → Prop)) (nePair (⟨default⟩ : Nonempty (Value → Shared → Prop)) (nePair (⟨default⟩ : Nonempty (Nat)) (nePair (⟨default⟩ : Nonempty (Option (List Env))) (nePair (⟨default⟩ : Nonempty (Option (List Code))) (⟨default⟩ : Nonempty (Nat))))))))))))))))))))) fun t => ¬ Pp t
def w : World := cc.1
def s : Shared := cc.2.1
def B : Heap := cc.2.2.1
def mean : ExcName → Option Value := cc.2.2.2.1
def mg : Str → Option Value := cc.2.2.2.2.1
def mb : Str → Option Value := cc.2.2.2.2.2.1
def hand : Addr := cc.2.2.2.2.2.2.1
def scr : Addr := cc.2.2.2.2.2.2.2.1
def k : Int := cc.2.2.2.2.2.2.2.2.1
def b : Int := cc.2.2.2.2.2.2.2.2.2.1
def many : Int := cc.2.2.2.2.2.2.2.2.2.2.1
def t3 : Tok := cc.2.2.2.2.2.2.2.2.2.2.2.1
def vs : List Value := cc.2.2.2.2.2.2.2.2.2.2.2.2.1
def ns : List Int := cc.2.2.2.2.2.2.2.2.2.2.2.2.2.1
def Q : Value → Shared → Prop := cc.2.2.2.2.2.2.2.2.2.2.2.2.2.2.1
def E : Value → Shared → Prop := cc.2.2.2.2.2.2.2.2.2.2.2.2.2.2.2.1
def dp : Nat := cc.2.2.2.2.2.2.2.2.2.2.2.2.2.2.2.2.1
def fr : Option (List Env) := cc.2.2.2.2.2.2.2.2.2.2.2.2.2.2.2.2.2.1
def gd : Option (List Code) := cc.2.2.2.2.2.2.2.2.2.2.2.2.2.2.2.2.2.2.1
def un : Nat := cc.2.2.2.2.2.2.2.2.2.2.2.2.2.2.2.2.2.2.2
def L' : Addr := s.heap.objs.size
theorem core (X : (hd.heap_1 w.params).In B) (T : TopH mean mg mb B) (U : B.StaysIn s.heap) (hd1 : (⟨none, dp, fr, gd, un⟩ : Around).depth + 10 < recursionLimit) (hu : (⟨none, dp, fr, gd, un⟩ : Around).units + 50 < cLine) (hH : HandAt s.heap hand scr k b) (hB : B.get? hand = none) (hne : scr ≠ hand) (hS : s.heap.IsList scr vs.toArray) (hI : IntsAre vs ns) (hl : ns.length ≤ 63) (hk0 : 0 ≤ k) (hk1 : k < 100000) (hm0 : 0 < many) (hm1 : many < 100000) (hQ : ∀ i t h' tk', 0 ≤ i → i < many → Kp [hand] s.heap h' → HandAt h' hand scr (k + 1) b → Q (.int i t) { s with heap := h', toks := tk' }) : wpAny (model prog w) (⟨none, dp, fr, gd, un⟩ : Around) (call (.ref 163) [.ref hand, .int many t3]) Q E s := by
  obtain ⟨t1, t2, n, hH⟩ := hH
  replace hd1 : dp + 10 < recursionLimit := hd1
  replace hu : un + 50 < cLine := hu
  refine wpAny_call ?_
  k_dflt (refine' enter2 (L₀ := L') (binds := [(Str.ofString "hand", .ref hand), (Str.ofString "many", .int many t3)]) [(hand, W.listOf #[.ref scr, .int k t1, .int b t2] n)] X T U ?hW ?k6 ?k7 ?k8 ?k9 ?kB ?_ ?c2 ?c3 ?c4 ?c5; (case k6 => k_is); (case k7 => k_is); (case k8 => (show dp < recursionLimit; omega)); (case k9 => exact BindsTo.of_eq rfl); (case c5 => decide); (case kB => exact locs rfl); (case c2 => exact rfl); (case c3 => exact rfl); (case c4 => exact rfl))
  · intro q hq
    cases List.mem_singleton.mp hq
    exact ⟨hH, hB⟩
  · intro g h₁ hg st F N X' T' up
    (try dsimp only)
    k_fold
    have hS' : g.IsList scr vs.toArray := by
      obtain ⟨o, ho, r⟩ := hS
      exact ⟨o, by rw [hg]; exact hideAll_get _ ho (by simpa using hne), r⟩
    have hlen := hI.length
    k_steps
    · rename Fr _ _ _ _ => F1
      rename News _ _ _ _ => N1
      exact hQ _ _ _ _ (Int.fmod_nonneg_of_pos _ hm0) (Int.fmod_lt_of_pos _ hm0) (kp_of hg F1) ⟨_, _, _, (N1 (hand, _) (by k_mem)).1⟩
    · rename Fr _ _ _ _ => F1
      rename News _ _ _ _ => N1
      exact hQ _ _ _ _ (Int.fmod_nonneg_of_pos _ hm0) (Int.fmod_lt_of_pos _ hm0) (kp_of hg F1) ⟨_, _, _, (N1 (hand, _) (by k_mem)).1⟩
end
end CN1nextok
theorem next_ok {w : World} {A : Around} {s : Shared} {B : Heap} {mean : ExcName → Option Value} {mg mb : Str → Option Value} {hand scr : Addr} {k b many : Int} {t3 : Tok} {vs : List Value} {ns : List Int}
    {Q E : Value → Shared → Prop}
    (X : (hd.heap_1 w.params).In B) (T : TopH mean mg mb B) (U : B.StaysIn s.heap) (hd1 : A.depth + 10 < recursionLimit) (hu : A.units + 50 < cLine) (hh : A.handled = none)
    (hH : HandAt s.heap hand scr k b) (hB : B.get? hand = none) (hne : scr ≠ hand)
    (hS : s.heap.IsList scr vs.toArray) (hI : IntsAre vs ns) (hl : ns.length ≤ 63) (hk0 : 0 ≤ k) (hk1 : k < 100000) (hm0 : 0 < many) (hm1 : many < 100000)
    (hQ : ∀ i t h' tk', 0 ≤ i → i < many → Kp [hand] s.heap h' → HandAt h' hand scr (k + 1) b → Q (.int i t) { s with heap := h', toks := tk' }) :
    wpAny (model prog w) A (call (.ref 163) [.ref hand, .int many t3]) Q E s := by
  obtain ⟨hnd, dp, fr, gd, un⟩ := A
  obtain rfl : hnd = none := hh
  have h : ∀ t, CN1nextok.Pp t := epsAll (nePair neWorld (nePair neShared (nePair (⟨default⟩ : Nonempty (Heap)) (nePair (⟨default⟩ : Nonempty (ExcName → Option Value)) (nePair (⟨default⟩ : Nonempty (Str → Option Value)) (nePair (⟨default⟩ : Nonempty (Str → Option Value)) (nePair (⟨default⟩ : Nonempty (Addr)) (nePair (⟨default⟩ : Nonempty (Addr)) (nePair (⟨default⟩ : Nonempty (Int)) (nePair (⟨default⟩ : Nonempty (Int)) (nePair (⟨default⟩ : Nonempty (Int)) (nePair (⟨default⟩ : Nonempty (Tok)) (nePair (⟨default⟩ : Nonempty (List Value)) (nePair (⟨default⟩ : Nonempty (List Int)) (nePair (⟨default⟩ : Nonempty (Value → Shared → Prop)) (nePair (⟨default⟩ : Nonempty (Value → Shared → Prop)) (nePair (⟨default⟩ : Nonempty (Nat)) (nePair (⟨default⟩ : Nonempty (Option (List Env))) (nePair (⟨default⟩ : Nonempty (Option (List Code))) (⟨default⟩ : Nonempty (Nat))))))))))))))))))))) CN1nextok.Pp CN1nextok.core
  exact h ⟨w, s, B, mean, mg, mb, hand, scr, k, b, many, t3, vs, ns, Q, E, dp, fr, gd, un⟩ X T U hd1 hu hH hB hne hS hI hl hk0 hk1 hm0 hm1 hQ
namespace CN2initok
noncomputable section
abbrev Tup : Type := (World) × (Shared) × (Heap) × (ExcName → Option Value) × (Str → Option Value) × (Str → Option Value) × (Addr) × (Addr) × (Addr) × (Str) × (Tok) × (List Value) × (Result → Shared → Prop) × (Nat) × (Option (List Env)) × (Option (List Code)) × (Nat)
def Pp : Tup → Prop := fun tt9 => (fun (w : World) (s : Shared) (B : Heap) (mean : ExcName → Option Value) (mg : Str → Option Value) (mb : Str → Option Value) (x : Addr) (dx : Addr) (l : Addr) (lab : Str) (t : Tok) (vs : List Value) (R : Result → Shared → Prop) (dp : Nat) (fr : Option (List Env)) (gd : Option (List Code)) (un : Nat) => ∀ (X : (hd.heap_1 w.params).In B) (T : TopH mean mg mb B) (U : B.StaysIn s.heap) (hd1 : (⟨none, dp, fr, gd, un⟩ : Around).depth + 10 < recursionLimit) (hu : (⟨none, dp, fr, gd, un⟩ : Around).units + 50 < cLine) (hx : s.heap.get? x = some (instObj 145 dx)) (hdx : s.heap.get? dx = some (dictOf [] 0)) (hBx : B.get? x = none) (hBd : B.get? dx = none) (hxd : dx < x) (hS : s.heap.IsList l vs.toArray) (hlx : l ≠ x) (hld : l ≠ dx) (hsz : vs.length ≤ sizeLine) (hQ : ∀ c t1 t2 k h' tk', Kp [x, dx] s.heap h' → h'.get? x = some (instObj 145 dx) → h'.get? dx = some (dictOf (treeEs w t1 t2 c lab t) 2) → h'.get? c = some (W.listOf vs.toArray k) → s.heap.get? c = none → R (.ok (.ret .none)) { s with heap := h', toks := tk' }), codeAny (model prog w) (⟨none, dp, fr, gd, un⟩ : Around) (.call (.ref 36) ⟨[.ref x, .str lab t, .ref l], []⟩) R s) tt9.1 tt9.2.1 tt9.2.2.1 tt9.2.2.2.1 tt9.2.2.2.2.1 tt9.2.2.2.2.2.1 tt9.2.2.2.2.2.2.1 tt9.2.2.2.2.2.2.2.1 tt9.2.2.2.2.2.2.2.2.1 tt9.2.2.2.2.2.2.2.2.2.1 tt9.2.2.2.2.2.2.2.2.2.2.1 tt9.2.2.2.2.2.2.2.2.2.2.2.1 tt9.2.2.2.2.2.2.2.2.2.2.2.2.1 tt9.2.2.2.2.2.2.2.2.2.2.2.2.2.1 tt9.2.2.2.2.2.2.2.2.2.2.2.2.2.2.1 tt9.2.2.2.2.2.2.2.2.2.2.2.2.2.2.2.1 tt9.2.2.2.2.2.2.2.2.2.2.2.2.2.2.2.2
def cc : Tup := @Classical.epsilon Tup (nePair neWorld (nePair neShared (nePair (⟨default⟩ : Nonempty (Heap)) (nePair (⟨default⟩ : Nonempty (ExcName → Option Value)) (nePair (⟨default⟩ : Nonempty (Str → Option Value)) (nePair (⟨default⟩ : Nonempty (Str → Option Value)) (nePair (⟨default⟩ : Nonempty (Addr)) (nePair (⟨default⟩ : Nonempty (Addr)) (nePair (⟨default⟩ : Nonempty (Addr)) (nePair (⟨default⟩ : Nonempty (Str)) (nePair (⟨default⟩ : Nonempty (Tok)) (nePair (⟨default⟩ : Nonempty (List Value)) (nePair (⟨default⟩ : Nonempty (Result → Shared → Prop)) (nePair (⟨default⟩ : Nonempty (Nat)) (nePair (⟨default⟩ : Nonempty (Option (List Env))) (nePair (⟨default⟩ : Nonempty (Option (List Code))) (⟨default⟩ : Nonempty (Nat)))))))))))))))))) fun t => ¬ Pp t
def w : World := cc.1
def s : Shared := cc.2.1
def B : Heap := cc.2.2.1
def mean : ExcName → Option Value := cc.2.2.2.1
def mg : Str → Option Value := cc.2.2.2.2.1
def mb : Str → Option Value := cc.2.2.2.2.2.1
def x : Addr := cc.2.2.2.2.2.2.1
def dx : Addr := cc.2.2.2.2.2.2.2.1
def l : Addr := cc.2.2.2.2.2.2.2.2.1
def lab : Str := cc.2.2.2.2.2.2.2.2.2.1
def t : Tok := cc.2.2.2.2.2.2.2.2.2.2.1
def vs : List Value := cc.2.2.2.2.2.2.2.2.2.2.2.1
def R : Result → Shared → Prop := cc.2.2.2.2.2.2.2.2.2.2.2.2.1
def dp : Nat := cc.2.2.2.2.2.2.2.2.2.2.2.2.2.1
def fr : Option (List Env) := cc.2.2.2.2.2.2.2.2.2.2.2.2.2.2.1
def gd : Option (List Code) := cc.2.2.2.2.2.2.2.2.2.2.2.2.2.2.2.1
def un : Nat := cc.2.2.2.2.2.2.2.2.2.2.2.2.2.2.2.2
def L' : Addr := s.heap.objs.size
theorem core (X : (hd.heap_1 w.params).In B) (T : TopH mean mg mb B) (U : B.StaysIn s.heap) (hd1 : (⟨none, dp, fr, gd, un⟩ : Around).depth + 10 < recursionLimit) (hu : (⟨none, dp, fr, gd, un⟩ : Around).units + 50 < cLine) (hx : s.heap.get? x = some (instObj 145 dx)) (hdx : s.heap.get? dx = some (dictOf [] 0)) (hBx : B.get? x = none) (hBd : B.get? dx = none) (hxd : dx < x) (hS : s.heap.IsList l vs.toArray) (hlx : l ≠ x) (hld : l ≠ dx) (hsz : vs.length ≤ sizeLine) (hQ : ∀ c t1 t2 k h' tk', Kp [x, dx] s.heap h' → h'.get? x = some (instObj 145 dx) → h'.get? dx = some (dictOf (treeEs w t1 t2 c lab t) 2) → h'.get? c = some (W.listOf vs.toArray k) → s.heap.get? c = none → R (.ok (.ret .none)) { s with heap := h', toks := tk' }) : codeAny (model prog w) (⟨none, dp, fr, gd, un⟩ : Around) (.call (.ref 36) ⟨[.ref x, .str lab t, .ref l], []⟩) R s := by
  replace hd1 : dp + 10 < recursionLimit := hd1
  replace hu : un + 50 < cLine := hu
  k_dflt (refine' enter2 (L₀ := L') (binds := [(Str.ofString "self", .ref x), (Str.ofString "node", .str lab t), (Str.ofString "children", .ref l)]) [(x, instObj 145 dx), (dx, dictOf [] 0)] X T U ?hW ?k6 ?k7 ?k8 ?k9 ?kB ?_ ?c2 ?c3 ?c4 ?c5; (case k6 => k_is); (case k7 => k_is); (case k8 => (show dp < recursionLimit; omega)); (case k9 => first | exact BindsTo.of_eq rfl | exact binds_K (X.keeps U) rfl (by k_is) rfl rfl rfl); (case c5 => decide); (case kB => exact locs rfl); (case c2 => exact rfl); (case c3 => exact rfl); (case c4 => exact rfl))
  · intro q hq
    rcases List.mem_cons.mp hq with rfl | hq
    · exact ⟨hx, hBx⟩
    · cases List.mem_singleton.mp hq
      exact ⟨hdx, hBd⟩
  · intro g h₁ hg st F N X' T' up
    (try dsimp only)
    k_fold
    have hS' : g.IsList l vs.toArray := by
      obtain ⟨o, ho, r⟩ := hS
      exact ⟨o, by rw [hg]; exact hideAll_get _ ho (by simp [hlx, hld]), r⟩
    replace hxd := ltN hxd
    k_steps
    rename Fr _ _ _ _ => F1
    rename News _ _ _ _ => N1
    rename _ ∧ _ => l1
    have n1 := N1 _ (.head _)
    have n2 := N1 _ (.tail _ (.head _))
    have n3 := N1 _ (.tail _ (.tail _ (.head _)))
    refine hQ _ _ _ _ _ _ (kp_of hg F1) n2.1 n3.1 n1.1 (fresh_of hg n1.2.2 fun q => ?_)
    rcases List.mem_cons.mp q with q | q
    · exact absurd q (Nat.ne_of_gt l1.1)
    · exact absurd (List.mem_singleton.mp q) (Nat.ne_of_gt l1.2)

end
end CN2initok
theorem init_ok {w : World} {A : Around} {s : Shared} {B : Heap} {mean : ExcName → Option Value} {mg mb : Str → Option Value} {x dx l : Addr} {lab : Str} {t : Tok} {vs : List Value} 
    {R : Result → Shared → Prop}
    (X : (hd.heap_1 w.params).In B) (T : TopH mean mg mb B) (U : B.StaysIn s.heap) (hd1 : A.depth + 10 < recursionLimit) (hu : A.units + 50 < cLine) (hh : A.handled = none)
    (hx : s.heap.get? x = some (instObj 145 dx)) (hdx : s.heap.get? dx = some (dictOf [] 0)) (hBx : B.get? x = none) (hBd : B.get? dx = none) (hxd : dx < x)
    (hS : s.heap.IsList l vs.toArray) (hlx : l ≠ x) (hld : l ≠ dx) (hsz : vs.length ≤ sizeLine)
    (hQ : ∀ c t1 t2 k h' tk', Kp [x, dx] s.heap h' → h'.get? x = some (instObj 145 dx) → h'.get? dx = some (dictOf (treeEs w t1 t2 c lab t) 2) → h'.get? c = some (W.listOf vs.toArray k) → s.heap.get? c = none → R (.ok (.ret .none)) { s with heap := h', toks := tk' }) :
    codeAny (model prog w) A (.call (.ref 36) ⟨[.ref x, .str lab t, .ref l], []⟩) R s := by
  obtain ⟨hnd, dp, fr, gd, un⟩ := A
  obtain rfl : hnd = none := hh
  have h : ∀ t, CN2initok.Pp t := epsAll (nePair neWorld (nePair neShared (nePair (⟨default⟩ : Nonempty (Heap)) (nePair (⟨default⟩ : Nonempty (ExcName → Option Value)) (nePair (⟨default⟩ : Nonempty (Str → Option Value)) (nePair (⟨default⟩ : Nonempty (Str → Option Value)) (nePair (⟨default⟩ : Nonempty (Addr)) (nePair (⟨default⟩ : Nonempty (Addr)) (nePair (⟨default⟩ : Nonempty (Addr)) (nePair (⟨default⟩ : Nonempty (Str)) (nePair (⟨default⟩ : Nonempty (Tok)) (nePair (⟨default⟩ : Nonempty (List Value)) (nePair (⟨default⟩ : Nonempty (Result → Shared → Prop)) (nePair (⟨default⟩ : Nonempty (Nat)) (nePair (⟨default⟩ : Nonempty (Option (List Env))) (nePair (⟨default⟩ : Nonempty (Option (List Code))) (⟨default⟩ : Nonempty (Nat)))))))))))))))))) CN2initok.Pp CN2initok.core
  exact h ⟨w, s, B, mean, mg, mb, x, dx, l, lab, t, vs, R, dp, fr, gd, un⟩ X T U hd1 hu hx hdx hBx hBd hxd hS hlx hld hsz hQ
theorem make_ok {w : World} {A : Around} {s : Shared} {g : Heap} {L : Addr} {m : Str → Option Value} {news : List (Addr × Obj)} {mean : ExcName → Option Value} {mg mb : Str → Option Value} {l : Addr} {lab : Str} {t : Tok} {vs : List Value} 
    {Q E : Value → Shared → Prop}
    (F : Fr g L s.heap m) (N : News g L s.heap news) (X : (hd.heap_1 w.params).In g) (T : TopH mean mg mb g) (hd1 : A.depth + 12 < recursionLimit) (hu : A.units + 80 < cLine) (hh : A.handled = none)
    {k : Nat} (hS : (l, W.listOf vs.toArray k) ∈ news) (hsz : vs.length ≤ sizeLine)
    (hQ : ∀ x dx c t1 t2 k h' tk', Fr g L h' m → News g L h' ((x, instObj 145 dx) :: (dx, dictOf (treeEs w t1 t2 c lab t) 2) :: (c, W.listOf vs.toArray k) :: news) → (∀ p ∈ news, p.1 ≠ x ∧ p.1 ≠ dx ∧ p.1 ≠ c) → Q (.ref x) { s with heap := h', toks := tk' }) :
    wpAny (model prog w) A (call (.ref 145) [.str lab t, .ref l]) Q E s := by
  k_dflt (refine' call_cls F X N ?k4 ?k5 ?k6 ?_; (case k4 => k_is); (case k5 => k_is); (case k6 => k_is))
  intro x dx h1 F1 N1 l1 l2
  have nx := N1 (x, _) (.head _)
  have nd := N1 (dx, _) (.tail _ (.head _))
  have nl := N1 (l, _) (.tail _ (.tail _ hS))
  have hlt : l < dx := l1 _ hS
  refine init_ok (s := { s with heap := h1 }) X T F1.keep (by rw [depth_under_make]; omega) (show A.units + 1 + 50 < cLine by omega) hh nx.1 nd.1 nx.2.2 nd.2.2 l2 (isList_at nl.1) (Nat.ne_of_lt (Nat.lt_trans hlt l2)) (Nat.ne_of_lt hlt) hsz ?_
  intro c t1 t2 k' h' tk' kp hx hdx hc hcn
  refine ⟨rfl, ?_⟩
  have cL : c ≠ L := fun q => by obtain ⟨o, _, _, e, _⟩ := F1.ns; rw [← q, hcn] at e; cases e
  have gc : g.get? c = none := by
    cases q : g.get? c with
    | none => rfl
    | some o => have := F1.keep _ _ q; rw [hcn] at this; cases this
  refine hQ x dx c t1 t2 k' h' tk' (Fr.kp F1 kp ?_ ?_) ?_ ?_
  · intro q
    rcases List.mem_cons.mp q with q | q
    · exact nx.2.1 q.symm
    · exact nd.2.1 (List.mem_singleton.mp q).symm
  · intro b q
    rcases List.mem_cons.mp q with rfl | q
    · exact nx.2.2
    · rw [List.mem_singleton.mp q]; exact nd.2.2
  · intro p hp
    rcases List.mem_cons.mp hp with rfl | hp
    · exact ⟨hx, nx.2⟩
    · rcases List.mem_cons.mp hp with rfl | hp
      · exact ⟨hdx, nd.2⟩
      · rcases List.mem_cons.mp hp with rfl | hp
        · exact ⟨hc, cL, gc⟩
        · have np := N1 p (.tail _ (.tail _ hp))
          refine ⟨kp _ _ (fun q => ?_) np.1, np.2⟩
          rcases List.mem_cons.mp q with q | q
          · exact Nat.lt_irrefl _ (q ▸ Nat.lt_trans (l1 _ hp) l2)
          · exact Nat.lt_irrefl _ ((List.mem_singleton.mp q) ▸ l1 _ hp)
  · intro p hp
    have np := N1 p (.tail _ (.tail _ hp))
    refine ⟨Nat.ne_of_lt (Nat.lt_trans (l1 _ hp) l2), Nat.ne_of_lt (l1 _ hp), fun q => ?_⟩
    have := np.1
    rw [q, hcn] at this; cases this
theorem leaves_ok {w : World} : ∀ (n : Nat) (d : D) {A : Around} {s : Shared} {B : Heap} {mean : ExcName → Option Value} {mg mb : Str → Option Value} {x : Addr} {Q E : Value → Shared → Prop},
    d.ht ≤ n → (hd.heap_1 w.params).In B → TopH mean mg mb B → B.StaysIn s.heap → A.depth + n + 2 < recursionLimit → A.units + 40 * n + 40 < cLine → A.handled = none → TreeAt w s.heap (.ref x) d → d.size ≤ 10000 →
    (∀ r vs k h' tk', Kp [] s.heap h' → s.heap.get? r = none → h'.get? r = some (W.listOf vs.toArray k) → Words vs d.leaves → Q (.ref r) { s with heap := h', toks := tk' }) →
    wpAny (model prog w) A (call (.ref 85) [.ref x]) Q E s := by
  intro n
  induction n with
  | zero => 
    intro d A s B mean mg mb x Q E hn X T U hd1 hu hh ht hsz hQ
    cases ht
    simp [D.ht] at hn
  | succ n IH =>
    intro d A s B mean mg mb x Q E hn X T U hd1 hu hh ht hsz hQ
    cases ht with
    | node hx hdx hc hlen hch =>
    rename_i dx c lab t1 t2 t3 k items ds
    obtain ⟨hnd, dp, fr, gd, un⟩ := A
    obtain rfl : hnd = none := hh
    replace hd1 : dp + (n + 1) + 2 < recursionLimit := hd1
    replace hu : un + 40 * (n + 1) + 40 < cLine := hu
    refine wpAny_call ?_
    k_dflt (refine' enter (binds := [(Str.ofString "self", .ref x)]) [] X T U ?hW ?k6 ?k7 ?k8 ?k9 ?kB ?_ ?c2 ?c3 ?c4 ?c5; (case k6 => k_is); (case k7 => k_is); (case k8 => (show dp < recursionLimit; omega)); (case k9 => first | exact BindsTo.of_eq rfl | exact binds_K (X.keeps U) rfl (by k_is) rfl rfl rfl); (case c5 => decide); (case kB => exact locs rfl); (case c2 => exact rfl); (case c3 => exact rfl); (case c4 => exact rfl))
    · exact fun _ h => nomatch h
    · intro g L' h₁ hg st F N X' T' up
      obtain rfl : g = s.heap := hg
      (try dsimp only)
      k_fold
      have hS' : Heap.IsList s.heap c items.toArray := isList_at hc
      k_steps
      refine Stop.mk (wpAny_For ?_)
      k_steps
      refine Stop.mk ?_
      rename_i lv _ _ hh1 F1 N1
      have hlv := (N1 _ (.head _)).2.2
      k_dflt refine' (forList F1 N1 rfl (isList_at (F1.keep _ _ hc)) ?_ rfl rfl
        (fun i m cs => ∃ acc k u, m = (fun y => if y = Str.ofString "child" then u else (fun y => if y = Str.ofString "leaves" then some (Value.ref lv) else List.lookup y [(Str.ofString "self", Value.ref x)]) y) ∧ cs = [(lv, W.listOf acc.toArray k)] ∧ Words acc (leavesL (ds.take i)))
        ⟨[], 0, none, ?_, rfl, .nil⟩ ?_ ?_)
      · exact Nat.ne_of_lt (Nat.lt_of_lt_of_le (Heap.lt_size hc) F1.above)
      · exact ins_none rfl
      · rintro i v m cs h tk I oI hv ⟨acc, k', u, rfl, rfl, hw⟩ hcI F2 N2 hl2
        have hIl := neN (hcI _ (.head _))
        dsimp only at hIl
        obtain ⟨di, hdi⟩ : ∃ d, ds[i]? = some d := by
          have : i < items.length := by simpa using (Array.getElem?_eq_some_iff.mp hv).1
          exact ⟨ds[i]'(hlen ▸ this), by simp [hlen ▸ this]⟩
        have hw' := leavesL_take_succ hdi
        have hacc : acc.length + di.leaves.length ≤ 9999 := by
          have h1 := hw.length; have h2 := leavesL_take_le ds (i + 1); rw [hw', List.length_append] at h2; simp only [D.size] at hsz; omega
        have hti := hch i v di (by simpa using hv) hdi
        have fin : ∀ (vs : List Value) h' tk' k'', Words vs di.leaves → Fr s.heap L' h' (fun y => if y = Str.ofString "child" then some v else (fun y => if y = Str.ofString "child" then u else (fun y => if y = Str.ofString "leaves" then some (Value.ref lv) else List.lookup y [(Str.ofString "self", Value.ref x)]) y) y) →
            News s.heap L' h' [(I, oI), (lv, W.listOf (acc ++ vs).toArray k'')] → 
            Stop (∃ h'' tk'' m' cs', ({ s with heap := h', toks := tk' } : Shared) = { s with heap := h'', toks := tk'' } ∧ Fr s.heap L' h'' m' ∧ News s.heap L' h'' ((I, oI) :: cs') ∧ (∀ p ∈ cs', p.1 ≠ I) ∧ (∀ o, h.get? c = some o → h''.get? c = some o) ∧
              ∃ acc k u, m' = (fun y => if y = Str.ofString "child" then u else (fun y => if y = Str.ofString "leaves" then some (Value.ref lv) else List.lookup y [(Str.ofString "self", Value.ref x)]) y) ∧ cs' = [(lv, W.listOf acc.toArray k)] ∧ Words acc (leavesL (ds.take (i + 1)))) := by
          intro vs h' tk' k'' hv' Fx Nx
          refine Stop.mk ⟨h', tk', _, [(lv, W.listOf (acc ++ vs).toArray k'')], rfl, Fx, Nx, ?_, fun o e => ?_, acc ++ vs, k'', some v, ins_twice, rfl, hw' ▸ hw.append hv'⟩
          · intro p hp
            rw [List.mem_singleton.mp hp]; exact hIl
          · have e' := F2.keep _ _ hc
            rw [e] at e'; cases e'
            exact Fx.keep _ _ hc
        cases hti with
        | leaf =>
          simp only [D.leaves, List.length_cons, List.length_nil] at hacc
          (try dsimp only)
          k_steps
          rename Fr _ _ _ _ => F3
          rename News _ _ _ _ => N3
          rw [List.push_toArray] at N3
          exact fin [_] _ _ _ (Words.one _ _) F3 N3
        | node ha hb hc' hd' he' =>
          (try dsimp only)
          k_steps
          rename Fr _ _ _ _ => F3
          rename News _ _ _ _ => N3
          have hd2 : D.ht _ ≤ _ := ht_le (List.mem_of_getElem? hdi)
          have hs2 : D.size _ ≤ _ := size_lt (List.mem_of_getElem? hdi)
          simp only [D.ht] at hn
          rw [D.size] at hsz
          k_dflt refine' (Stop.mk (IH _ (by omega) X' T' F3.keep (show dp + 1 + n + 2 < recursionLimit by omega) (show un + 3 + 40 * n + 40 < cLine by omega) rfl ((TreeAt.node ha hb hc' hd' he').up F3.keep) (by omega) ?_))
          intro r vs kr h' tk' kp hr hget hw3
          obtain ⟨F4, N4, nr⟩ := fresh_call F3 N3 kp hr hget
          clear F3 N3
          have n1 := neN (nr _ (.head _)); have n2 := neN (nr _ (.tail _ (.head _)))
          have hl3 := hw3.length
          dsimp only at n1 n2
          (try dsimp only)
          k_steps
          refine Stop.mk (extend_in (own := [_, _]) (rest := []) F4 N4 ?_ (fun _ q => nomatch q) hget ?_ ?_)
          · intro p hp
            rcases List.mem_cons.mp hp with rfl | hp
            · exact Ne.symm n2
            · rw [List.mem_singleton.mp hp]; exact Ne.symm hIl
          · intro h6 n6 F6 N6
            clear F4 N4
            (try dsimp only)
            k_steps
            rename Fr _ _ _ _ => F7
            rename News _ _ _ _ => N7
            exact fin vs _ _ n6 hw3 F7 (News.sub N7 (fun p hp => .tail _ hp))
          · rw [List.size_toArray, sizeLine_eq]; omega
      · rintro m cs h tk ⟨acc, k', u, rfl, rfl, hw⟩ Fx Nx
        dsimp only
        k_steps
        refine hQ _ acc k' _ _ ?_ hlv (Nx _ (.head _)).1 ?_
        · exact fun b o _ e => Fx.keep b o e
        · simpa [hlen, D.leaves] using hw
theorem subs_ok {w : World} : ∀ (n : Nat) (d : D) (V : List Value) {A : Around} {s : Shared} {B : Heap} {mean : ExcName → Option Value} {mg mb : Str → Option Value} {x : Addr} {Q E : Value → Shared → Prop},
    d.ht ≤ n → (hd.heap_1 w.params).In B → TopH mean mg mb B → B.StaysIn s.heap → A.depth + 2 < recursionLimit → TreeV w B (.ref x) d V →
    (∀ a L gs h' tk', Kp [] s.heap h' → s.heap.get? a = none → s.heap.get? L = none → (∃ o, h'.get? a = some o) → (∃ o, h'.get? L = some o) → gs.bare = true →
      (∀ (A' : Around) X GX s₂, A'.handled = none → A'.depth + n + 3 < recursionLimit → A'.units + 40 * n + 40 < cLine → h'.StaysIn s₂.heap → s₂.gens[s.gens.size]? = some gs →
        (∀ b ∈ X, (∃ o, s₂.heap.get? b = some o) ∧ b ≠ a ∧ b ≠ L ∧ B.get? b = none) → (∀ i ∈ GX, i < s.gens.size) → GAt w A' B V X GX a s.gens.size V.length s₂) →
      Q (.ref a) { s with heap := h', toks := tk', gens := s.gens.push gs }) →
    wpAny (model prog w) A (call (.ref 114) [.ref x]) Q E s := by
  intro n
  induction n with
  | zero => 
    intro d V A s B mean mg mb x Q E hn X T U hd1 ht hQ
    cases ht
    simp [D.ht] at hn
  | succ n IH =>
    intro d V A s B mean mg mb x Q E hn X T U hd1 ht hQ
    cases ht with
    | node hx hdx hc hlen hlenV hch =>
    rename_i dx c lab t1 t2 t3 k items ds Vs
    have XS := X.keeps U
    refine wpAny_call ?_
    k_dflt (refine' enterG (binds := [(Str.ofString "self", Value.ref x)]) XS (T.nolimit.keeps U) ?k6 ?k7 ?k8 ?k9 ?kB ?_ ?c2 ?c3 ?c4 ?c5; (case k6 => k_is); (case k7 => k_is); (case k8 => exact Nat.lt_of_le_of_lt (Nat.le_add_right _ 2) hd1); (case k9 => exact BindsTo.of_eq rfl); (case c5 => decide); (case kB => exact locs rfl); (case c2 => exact rfl); (case c3 => exact rfl); (case c4 => exact rfl))
    intro h₁ ob tk1 hns hst hsz hig hpv
    have hL1 : ∃ o, h₁.get? s.heap.objs.size = some o := let ⟨o, _, _, e, _⟩ := hns; ⟨o, e⟩
    have hst' : s.heap.StaysIn (h₁.push ob) := fun b o e => Heap.get?_push_of_some _ (hst b o e)
    refine hQ h₁.objs.size s.heap.objs.size _ _ _ (.of_stays hst') ?_ (Heap.get?_none_of_le (Nat.le_refl _)) (let ⟨o, _, _, e, _⟩ := hig; ⟨o, e⟩) (let ⟨o, e⟩ := hL1; ⟨o, Heap.get?_push_of_some _ e⟩) rfl ?_
    · cases q : s.heap.get? h₁.objs.size with
      | none => rfl
      | some o => exact absurd (Heap.lt_size q) (by rw [hsz]; exact Nat.not_lt.mpr (Nat.le_succ _))
    intro A' XX GX s₂ hh' hdp hun hup hgs hXX hGX
    refine ⟨hig.keeps hup, fun q => (hXX _ q).2.1 rfl, fun q => Nat.lt_irrefl _ (hGX _ q), fun b hb => (hXX b hb).1, _, hgs, fun s₃ hs₃ => ⟨rfl, ?_⟩⟩
    generalize hL : s.heap.objs.size = L at *
    have hLX : L ∉ XX := fun q => (hXX _ q).2.2.1 rfl
    have hBX : ∀ b ∈ XX, B.get? b = none := fun b hb => (hXX b hb).2.2.2
    have hBL : B.get? L = none := by
      cases q : B.get? L with
      | none => rfl
      | some o => exact absurd (Heap.lt_size (U _ _ q)) (by rw [hL]; exact Nat.lt_irrefl _)
    -- the base
    have u₃ : B.StaysIn s₃.heap := fun b o e => hs₃.heap b o (fun q => by rw [hBX b q] at e; cases e) (hup b o (hst' b o (U b o e)))
    have bs : ∀ b o, (cutTo s.heap B).get? b = some o → B.get? b = some o := fun b o e => cutTo_some U e
    have bu := cutTo_up U
    have Xg : (hd.heap_1 w.params).In (cutTo s.heap B) := X.keeps bu
    have Tg : TopH mean mg mb (cutTo s.heap B) := T.keeps bu
    have gsz : (cutTo s.heap B).objs.size ≤ L := Nat.le_of_eq ((cutTo_size _ _).trans hL)
    generalize cutTo s.heap B = g' at *
    have F0 : Fr g' L s₃.heap (fun y => List.lookup y [(Str.ofString "self", Value.ref x)]) :=
      ⟨(by
        obtain ⟨o, es, ep, e, r⟩ := hns
        exact ⟨o, es, ep, hs₃.heap _ _ hLX (hup _ _ (Heap.get?_push_of_some _ e)), r⟩), fun b o e => u₃ b o (bs b o e), gsz⟩
    have al₃ := hs₃.alive
    have hGX' : ∀ i ∈ GX, i < Array.size s.gens := hGX
    have gl₃ : Array.size s.gens < s₃.gens.size := Nat.lt_of_lt_of_le (gens_lt hgs) hs₃.gsz
    clear hs₃ hgs hup hst' hst hns hL1 hpv hig hQ u₃
    obtain ⟨hnd, dp, fr, gd, un⟩ := A'
    obtain rfl : hnd = none := hh'
    replace hdp : dp + (n + 1) + 3 < recursionLimit := hdp
    replace hun : un + 40 * (n + 1) + 40 < cLine := hun
    refine seg_func (seg_execs_cons (seg_Expr_Yield rfl rfl rfl ?_))
    k_dflt refine' ld F0 rfl ?_
    intro kap hkap
    refine ⟨by simp, Mv.refl, fun s₄ hs₄ => hkap .none s₄ ?_⟩
    have F4 : Fr g' L s₄.heap (fun y => List.lookup y [(Str.ofString "self", Value.ref x)]) :=
      ⟨(by
        obtain ⟨o, es, ep, e, r⟩ := F0.ns
        exact ⟨o, es, ep, hs₄.heap _ _ hLX e, r⟩), fun b o e => hs₄.heap b o (fun q => by have := bs _ _ e; rw [hBX b q] at this; cases this) (F0.keep b o e), gsz⟩
    have al₄ := hs₄.alive
    have gl₄ : Array.size s.gens < s₄.gens.size := Nat.lt_of_lt_of_le (by rw [setGen_size]; exact gl₃) hs₄.gsz
    clear hkap F0 al₃ hs₄ gl₃
    clear s₃ kap
    dsimp only
    refine seg_execs_cons (seg_For (fun _ => rfl) ?_)
    generalize hg : Array.size s.gens = g at *
    have hx' : g'.get? x = some (instObj 145 dx) := bu _ _ hx
    have hdx' : g'.get? dx = some (dictOf (treeEs w t1 t2 c lab t3) 2) := bu _ _ hdx
    have hc' : g'.get? c = some (W.listOf items.toArray k) := bu _ _ hc
    have gnX : ∀ b o, g'.get? b = some o → b ∉ XX := fun b o e q => by have := bs _ _ e; rw [hBX b q] at this; cases this
    have gB : ∀ b o, g'.get? b = some o → (B.get? b).isSome = true := fun b o e => by rw [bs b o e]; rfl
    generalize hA1 : Around.over _ _ _ = A1
    have h1 : A1.handled = none := by rw [← hA1]; exact rfl
    have h2 : A1.depth ≤ dp + 1 := by rw [← hA1]; exact Nat.le_refl _
    have h3 : A1.units ≤ un + 3 := by rw [← hA1]; exact Nat.le_refl _
    clear hA1
    obtain ⟨hnd1, dp1, fr1, gd1, un1⟩ := A1
    obtain rfl : hnd1 = none := h1
    have N4 : News g' L s₄.heap [] := News.nil
    k_steps
    refine Stop.mk (wpAny_pyIter_list (isList_at (F4.keep _ _ hc')) ?_)
    intro p
    have hIX : s₄.heap.objs.size ∉ XX := fun q => let ⟨o, e⟩ := al₄ _ q; absurd (Heap.lt_size e) (Nat.lt_irrefl _)
    have hLI : L ≠ s₄.heap.objs.size := Nat.ne_of_lt F4.ns.lt
    have hBI : B.get? s₄.heap.objs.size = none := by
      cases q : B.get? s₄.heap.objs.size with
      | none => rfl
      | some o => exact absurd (Heap.lt_size (F4.keep _ _ (bu _ _ q))) (Nat.lt_irrefl _)
    clear h2 h3 N4
    refine seg_loop items.length (fun i n s₀ s => i ≤ items.length ∧ n = ((Vs.drop i).flatten).length ∧
      (∃ u1 u2, Fr g' L s.heap (fun y => if y = Str.ofString "child" then u1 else (fun y => if y = Str.ofString "subtree" then u2 else List.lookup y [(Str.ofString "self", Value.ref x)]) y)) ∧
      s.heap.IsListIter s₄.heap.objs.size c i ∧ (∀ b ∈ XX, ∃ o, s.heap.get? b = some o) ∧ Mv B XX s₀ s ∧ g < s.gens.size) (fun i n s₀ s h => h.1) ?_ 0 _ _ _ ?_
    · rintro i n₁ s₀ s₅ ⟨hi, rfl, ⟨u1, u2, F5⟩, hit, al₅, mv, gl₅⟩ next
      generalize hI : s₄.heap.objs.size = I at *
      have hIp : ∀ o, s₅.heap.get? I = some o → priv o = true := fun o e => by
        obtain ⟨o', e', hc'', _⟩ := hit
        rw [e] at e'; cases e'
        simp [priv, hc'']
      by_cases hlt : i < items.length
      · obtain ⟨v, hv⟩ : ∃ v, items[i]? = some v := ⟨items[i], by simp [hlt]⟩
        refine wpAny_pyNext_list_item hit (isList_at (F5.keep _ _ hc')) (x := v) (by simpa using hv) fun h₆ hit₆ hs₆ => ?_
        have k6 : ∀ b o, b ≠ I → s₅.heap.get? b = some o → h₆.get? b = some o := fun b o n e => hs₆.extBut b o n e
        have F6 := Fr.kp F5 (W := [I]) (fun b o n e => k6 b o (by simpa using n) e) (by simpa using hLI) (by
          intro b hb; rw [List.mem_singleton.mp hb]
          cases q : g'.get? I with
          | none => rfl
          | some o => rw [bs _ _ q] at hBI; cases hBI)
        refine wpAny_storeName_local rfl F6.ns (fun h₇ hn₇ hs₇ => ?_) rfl
        have F7 := F6.set hn₇ hs₇
        have k7 : ∀ b o, b ≠ I → b ≠ L → s₅.heap.get? b = some o → h₇.get? b = some o := fun b o n m e => hs₇.extBut b o m (k6 b o n e)
        have hit₇ : h₇.IsListIter I c (i + 1) := hit₆.extBut hs₇.extBut (Ne.symm hLI)
        have mv₇ : ∀ tk, Mv B XX s₀ { s₅ with heap := h₇, toks := tk } := fun tk => mv.trans ⟨fun b o e p => (by
          refine k7 b o (fun q => ?_) (fun q => ?_) e
          · subst q
            rw [hIp o e] at p
            rcases p with p | p | p
            · cases p
            · exact hIX p
            · rw [hBI] at p; cases p
          · subst q
            obtain ⟨o', _, _, e', hd', _⟩ := F5.ns
            rw [e] at e'; cases e'
            rcases p with p | p | p
            · simp [priv, hd'] at p
            · exact hLX p
            · rw [hBL] at p; cases p), Nat.le_refl _, id, rfl, rfl⟩
        have al₇ : ∀ b ∈ XX, ∃ o, h₇.get? b = some o := fun b hb => let ⟨o, e⟩ := al₅ b hb
          ⟨o, k7 b o (fun q => hIX (q ▸ hb)) (fun q => hLX (q ▸ hb)) e⟩
        clear k6 k7 hs₆ hs₇ hn₇ F6 hit₆ hIp hit al₅ mv F5
        obtain ⟨di, hdi⟩ : ∃ d, ds[i]? = some d := ⟨ds[i]'(hlen ▸ hlt), by simp [hlen ▸ hlt]⟩
        obtain ⟨Vi, hVi⟩ : ∃ V, Vs[i]? = some V := ⟨Vs[i]'(by omega), by simp [hlenV, hlen ▸ hlt]⟩
        have hfl : (Vs.drop i).flatten = Vi ++ (Vs.drop (i + 1)).flatten := by
          rw [List.drop_eq_getElem_cons (by omega : i < Vs.length), List.flatten_cons]
          congr 1
          rw [List.getElem?_eq_getElem (by omega)] at hVi
          exact Option.some.inj hVi
        have hall : Vs.flatten = (Vs.take i).flatten ++ (Vi ++ (Vs.drop (i + 1)).flatten) := by
          rw [← hfl, ← List.flatten_append, List.take_append_drop]
        have hti := hch i v di Vi hv hdi hVi
        have hdh : di.ht ≤ n := by
          have := ht_le (List.mem_of_getElem? hdi)
          simp only [D.ht] at hn; omega
        refine seg_execs_cons (seg_If ?_)
        generalize hA1 : Around.over _ _ _ = A1
        have h1 : A1.handled = none := by rw [← hA1]; exact rfl
        have h2 : A1.depth ≤ dp + 1 := by rw [← hA1]; exact Nat.le_refl _
        have h3 : A1.units ≤ un + 3 := by rw [← hA1]; exact Nat.le_refl _
        clear hA1
        obtain ⟨hnd1, dp2, fr2, gd2, un2⟩ := A1
        obtain rfl : hnd1 = none := h1
        have N7 : News g' L h₇ [] := News.nil
        have F8 : ∃ u, Fr g' L h₇ (fun y => if y = Str.ofString "child" then u else (fun y => if y = Str.ofString "subtree" then u2 else List.lookup y [(Str.ofString "self", Value.ref x)]) y) :=
          ⟨some v, ins_twice (m := fun y => if y = Str.ofString "subtree" then u2 else List.lookup y [(Str.ofString "self", Value.ref x)]) (x := Str.ofString "child") (u := u1) (v := some v) ▸ F7⟩
        rcases hti.inv with ⟨i', t', rfl, rfl, _⟩ | ⟨y, dy, cy, lab', t4, t5, t6, rfl, hxi, hdxi⟩
        · k_steps
          refine seg_again rfl (next _ _ _ ⟨hlt, ?_, let ⟨u, f⟩ := F8; ⟨u, u2, f⟩, hit₇, al₇, mv₇ _, gl₅⟩)
          rw [hfl]; simp
        · have hxi' := bu _ _ hxi
          have hdxi' := bu _ _ hdxi
          k_steps
          refine seg_execs_cons (seg_For (fun _ => rfl) ?_)
          generalize hA1 : Around.over _ _ _ = A1
          have h1 : A1.handled = none := by rw [← hA1]; exact rfl
          have h2 : A1.depth ≤ dp + 1 := by rw [← hA1]; exact Nat.le_refl _
          have h3 : A1.units ≤ un + 3 := by rw [← hA1]; exact Nat.le_refl _
          clear hA1
          obtain ⟨hnd1, dp3, fr3, gd3, un3⟩ := A1
          obtain rfl : hnd1 = none := h1
          replace h2 : dp3 ≤ dp + 1 := h2
          k_steps
          refine Stop.mk ?_
          k_dflt refine' (IH _ _ hdh X T (fun b o e => F7.keep b o (bu b o e)) (show dp3 + 2 < recursionLimit by omega) hti ?_)
          intro a Lc gs h₈ tk₈ kp ha hLn hao hLo hgb hG
          obtain ⟨u3, F8⟩ := F8
          have F9 : Fr g' L h₈ _ := Fr.kp F8 kp (fun q => nomatch q) (fun _ q => nomatch q)
          have hit₉ : h₈.IsListIter I c (i + 1) := hit₇.at fun o e => kp _ _ (fun q => nomatch q) e
          have al₉ : ∀ b ∈ XX, ∃ o, h₈.get? b = some o := fun b hb => let ⟨o, e⟩ := al₇ b hb; ⟨o, kp _ _ (fun q => nomatch q) e⟩
          have hgen := (hG ⟨none, 0, none, none, 0⟩ [] [] { s₅ with heap := h₈, toks := tk₈, gens := s₅.gens.push gs } rfl (show 0 + n + 3 < recursionLimit by omega) (show 0 + 40 * n + 40 < cLine by omega) (stays_refl _) (by simp) (fun _ q => nomatch q) (fun _ q => nomatch q)).1
          dsimp only
          refine wpAny_pyIter_gen hgen ?_
          intro p2
          have hnl : g'.NoLimit := Tg.nolimit
          refine seg_loopA Vi.length fun A2 hA2 => ?_
          have q1 : A2.handled = none := by rw [hA2]; exact rfl
          have q2 : A2.depth ≤ dp + 1 := by rw [hA2]; exact Nat.le_refl _
          have q3 : A2.units ≤ un + 3 := by rw [hA2]; exact Nat.le_refl _
          clear hA2
          have hLc : ∃ o, h₈.get? Lc = some o := hLo
          have cIX : ∀ b ∈ L :: I :: XX, B.get? b = none := fun b hb => by
            rcases List.mem_cons.mp hb with rfl | hb
            · exact hBL
            · rcases List.mem_cons.mp hb with rfl | hb
              · exact hBI
              · exact hBX b hb
          refine ⟨fun j n₂ s₀ s => j ≤ Vi.length ∧ n₂ = (Vi.length - j) + (Vs.drop (i + 1)).flatten.length ∧
            (∃ u1 u2, Fr g' L s.heap (fun y => if y = Str.ofString "child" then u1 else (fun y => if y = Str.ofString "subtree" then u2 else List.lookup y [(Str.ofString "self", Value.ref x)]) y)) ∧
            s.heap.IsListIter I c (i + 1) ∧ (∀ b ∈ XX, ∃ o, s.heap.get? b = some o) ∧ Mv B XX s₀ s ∧ g < s.gens.size ∧ GAt w A2.in1 B Vi (L :: I :: XX) (g :: GX) a s₅.gens.size (Vi.length - j) s, fun j n₂ s₀ s h => h.1, ?_, ?_⟩
          · rintro j n₂ s₆ sj ⟨hj, rfl, ⟨u1, u2, Fj⟩, hitj, alj, mvj, glj, Gj⟩ nextj
            refine GAt.next q1 (hnl.keeps Fj.keep) (show A2.depth < recursionLimit by omega) Gj (fun h0 s' mv' => ?_) (fun m v s' hm hV mv' G' => ?_)
            · refine seg_leaf (.ok .next) (seg_again rfl (next _ _ _ ⟨hlt, by rw [h0, Nat.zero_add], ⟨u1, u2, Fr.mv Fj mv' (.head _) gB⟩, hitj.at fun o e => mv'.heap _ _ e (.inr (.inl (.tail _ (.head _)))), ?_,
                mvj.trans (mv'.mono fun b hb => .tail _ (.tail _ hb)), Nat.lt_of_lt_of_le glj mv'.gsz⟩))
              exact fun b hb => let ⟨o, e⟩ := alj b hb; ⟨o, mv'.heap _ _ e (.inr (.inl (.tail _ (.tail _ hb))))⟩
            · have hn1 : Vi.length - j + (Vs.drop (i + 1)).flatten.length = (m + (Vs.drop (i + 1)).flatten.length) + 1 := by omega
              rw [hn1]
              have F' := Fr.mv Fj mv' (.head _) gB
              refine wpAny_storeName_local rfl F'.ns (fun h₉ hn₉ hs₉ => ?_) rfl
              have F'' := F'.set hn₉ hs₉
              rw [ins_swap (by decide)] at F''
              have kL : ∀ b o, b ≠ L → s'.heap.get? b = some o → h₉.get? b = some o := fun b o n e => hs₉.extBut b o n e
              refine seg_execs_cons (seg_Expr_Yield rfl rfl rfl ?_)
              k_dflt refine' ld F'' rfl ?_
              intro kap hkap
              refine ⟨?_, (mvj.trans (mv'.mono fun b hb => .tail _ (.tail _ hb))).trans ⟨fun b o e p => kL b o (fun q => ?_) e, Nat.le_refl _, id, rfl, rfl⟩, fun s'' hs'' => hkap .none s'' ?_⟩
              · rw [hall]
                have e1 : Vi.length - 1 - m = j := by omega
                rw [e1] at hV
                have e2 : (Value.ref x :: ((Vs.take i).flatten ++ (Vi ++ (Vs.drop (i + 1)).flatten))).length - 1 - (m + (Vs.drop (i + 1)).flatten.length) = ((Vs.take i).flatten.length + j) + 1 := by
                  simp only [List.length_cons, List.length_append]
                  have := (List.getElem?_eq_some_iff.mp hV).1
                  omega
                rw [e2, List.getElem?_cons_succ, List.getElem?_append_right (by omega), Nat.add_sub_cancel_left, List.getElem?_append_left (List.getElem?_eq_some_iff.mp hV).1]
                exact hV
              · subst q
                obtain ⟨o', _, _, e', hd', _⟩ := F'.ns
                rw [e] at e'; cases e'
                rcases p with p | p | p
                · simp [priv, hd'] at p
                · exact hLX p
                · rw [hBL] at p; cases p
              · have kS : ∀ b o, b ≠ L → b ∉ XX → s'.heap.get? b = some o → s''.heap.get? b = some o := fun b o n nx e => hs''.heap b o nx (kL b o n e)
                have F3 : Fr g' L s''.heap (fun y => if y = Str.ofString "child" then u1 else (fun y => if y = Str.ofString "subtree" then some v else List.lookup y [(Str.ofString "self", Value.ref x)]) y) :=
                  Fr.kp F'' (W := XX) hs''.heap hLX fun b hb => by
                    cases q : g'.get? b with
                    | none => rfl
                    | some o => exact absurd hb (gnX b o q)
                refine seg_again rfl (nextj _ _ _ ⟨by omega, by omega, ⟨u1, some v, F3⟩, ?_, hs''.alive, Mv.refl, Nat.lt_of_lt_of_le (Nat.lt_of_lt_of_le glj mv'.gsz) hs''.gsz, ?_⟩)
                · exact (hitj.at fun o e => mv'.heap _ _ e (.inr (.inl (.tail _ (.head _))))).at fun o e => kS _ _ (Ne.symm hLI) hIX e
                · have e3 : Vi.length - (j + 1) = m := by omega
                  rw [e3]
                  refine G'.move ⟨fun b o n e => kS b o (fun q => n (q ▸ .head _)) (fun q => n (.tail _ (.tail _ q))) e, fun i' n' h' => hs''.gens i' n' h', fun b hb => ?_, hs''.gsz⟩
                  rcases List.mem_cons.mp hb with rfl | hb
                  · obtain ⟨o, _, _, e, _⟩ := F3.ns; exact ⟨o, e⟩
                  · rcases List.mem_cons.mp hb with rfl | hb
                    · obtain ⟨o, e, _⟩ := hitj
                      exact ⟨o, kS _ _ (Ne.symm hLI) hIX (mv'.heap _ _ e (.inr (.inl (.tail _ (.head _)))))⟩
                    · exact hs''.alive b hb
          · refine ⟨Nat.zero_le _, by rw [hfl]; simp, ⟨u3, u2, F9⟩, hit₉, al₉, (mv₇ _).trans ⟨fun b o e _ => kp _ _ (fun q => nomatch q) e, by simp, fun h => AllBare.push h hgb, rfl, rfl⟩, by simp; omega, ?_⟩
            have ex : ∀ b ∈ L :: I :: XX, ∃ o, h₇.get? b = some o := fun b hb => by
              rcases List.mem_cons.mp hb with rfl | hb
              · obtain ⟨o, _, _, e, _⟩ := F8.ns; exact ⟨o, e⟩
              · rcases List.mem_cons.mp hb with rfl | hb
                · obtain ⟨o, e, _⟩ := hit₇; exact ⟨o, e⟩
                · exact al₇ b hb
            refine hG A2.in1 (L :: I :: XX) (g :: GX) _ q1 (show A2.depth + n + 3 < recursionLimit by omega) (show A2.units + 1 + 40 * n + 40 < cLine by omega) (stays_refl _) (by simp) (fun b hb => ?_) (fun i' hi' => ?_)
            · obtain ⟨o, e⟩ := ex b hb
              refine ⟨⟨o, kp _ _ (fun q => nomatch q) e⟩, fun q => ?_, fun q => ?_, cIX b hb⟩
              · subst q; rw [show h₇.get? _ = none from ha] at e; cases e
              · subst q; rw [show h₇.get? _ = none from hLn] at e; cases e
            · rcases List.mem_cons.mp hi' with rfl | hi'
              · exact gl₅
              · exact Nat.lt_trans (hGX' _ hi') gl₅
      · have hin : i = items.length := by omega
        subst hin
        refine wpAny_pyNext_list_end rfl hit (isList_at (F5.keep _ _ hc')) (by simp) fun h₆ he₆ => ?_
        refine seg_leaf (.ok .next) (seg_end (.ok (.ret .none)) ⟨rfl, ?_, mv.trans ⟨fun b o e p => he₆ b o (fun q => ?_) e, Nat.le_refl _, id, rfl, rfl⟩⟩)
        · rw [hlen, ← hlenV]; simp
        · subst q
          rw [hIp o e] at p
          rcases p with p | p | p
          · cases p
          · exact hIX p
          · rw [hBI] at p; cases p
    · refine ⟨Nat.zero_le _, by simp, ⟨none, none, ?_⟩, ⟨_, Heap.get?_push_size _ rfl, rfl, rfl⟩, fun b hb => let ⟨o, e⟩ := al₄ b hb; ⟨o, Heap.get?_push_of_some _ e⟩, ⟨fun b o e _ => Heap.get?_push_of_some _ e, Nat.le_refl _, id, rfl, rfl⟩, gl₄⟩
      have e1 : (fun y => List.lookup y [(Str.ofString "self", Value.ref x)]) = fun y => if y = Str.ofString "child" then none else (fun y => if y = Str.ofString "subtree" then none else List.lookup y [(Str.ofString "self", Value.ref x)]) y :=
        (ins_none rfl).trans (congrArg (fun m => fun y => if y = Str.ofString "child" then none else m y) (ins_none rfl))
      exact e1 ▸ F4.push _
section
local macro_rules | `(tactic| walk_at "eval ListComp") => `(tactic| (k_here; refine stop ?_))
local macro_rules | `(tactic| walk_at "eval Name") => `(tactic| (k_here; (with_reducible show wpAny _ _ (eval (Expr.Name _ _) (compEnvC _ _ _ _)) _ _ _); k_dflt (first
  | (refine' nameC_L ?F ?v ?_ ?a ?b; (case a => rfl); (case b => rfl); (case F => k_asm); (case v => exact rfl); k_whole)
  | (refine' nameC_G ?F ?X ?T ?e ?_ ?g ?a ?b; (case a => rfl); (case b => rfl); (case g => rfl); (case F => k_asm); (case X => k_asm); (case T => k_asm); (case e => k_is); k_whole))))
theorem ltree_ok {w : World} : ∀ (n : Nat) (d : D) {A : Around} {s : Shared} {B : Heap} {mean : ExcName → Option Value} {mg mb : Str → Option Value} {v : Value} {Q E : Value → Shared → Prop},
    d.ht < n → (hd.heap_1 w.params).In B → TopH mean mg mb B → B.StaysIn s.heap → A.depth + 2 * n + 16 < recursionLimit → A.units + 60 * n + 90 < cLine → A.handled = none → DrawnAt s.heap v d → d.size ≤ 10000 →
    (∀ r h' tk', Kp [] s.heap h' → TreeAt w (newer s.heap h') r d → Q r { s with heap := h', toks := tk' }) →
    wpAny (model prog w) A (call (.ref 175) [v]) Q E s := by
  intro n
  induction n with
  | zero => exact fun d A s B mean mg mb v Q E hn => absurd hn (Nat.not_lt_zero _)
  | succ n IH => 
    intro d A s B mean mg mb v Q E hn X T U hd1 hu hh ht hsz hQ
    obtain ⟨hnd, dp, fr, gd, un⟩ := A
    obtain rfl : hnd = none := hh
    replace hd1 : dp + 2 * (n + 1) + 16 < recursionLimit := hd1
    replace hu : un + 60 * (n + 1) + 90 < cLine := hu
    refine wpAny_call ?_
    k_dflt (refine' enter (binds := [(Str.ofString "drawn", v)]) [] X T U ?hW ?k6 ?k7 ?k8 ?k9 ?kB ?_ ?c2 ?c3 ?c4 ?c5; (case k6 => k_is); (case k7 => k_is); (case k8 => (show dp < recursionLimit; omega)); (case k9 => first | exact BindsTo.of_eq rfl | exact binds_K (X.keeps U) rfl (by k_is) rfl rfl rfl); (case c5 => decide); (case kB => exact locs rfl); (case c2 => exact rfl); (case c3 => exact rfl); (case c4 => exact rfl))
    · exact fun _ h => nomatch h
    · intro g L' h₁ hg st F N X' T' up
      obtain rfl : g = s.heap := hg
      cases ht with
      | leaf =>
        (try dsimp only)
        k_fold
        k_steps
        rename Fr _ _ _ _ => F1
        exact hQ _ _ _ (.of_stays F1.keep) .leaf
      | node ha hl hlen hch =>
        rename_i a l lab t k items ds
        (try dsimp only)
        k_fold
        have hT : IsTup s.heap a #[.str lab t, .ref l] := ⟨_, ha, rfl, _, rfl⟩
        have hT2 : s.heap.IsTuple a #[.str lab t, .ref l] := ⟨_, ha, rfl, _, rfl⟩
        have hS : s.heap.IsList l items.toArray := isList_at hl
        k_steps
        k_dflt refine' (Stop.mk (eval_listComp (cl := []) rfl (by with_unfolding_all rfl) (by decide) rfl (by decide) rfl ?_ (fun _ => rfl)))
        k_steps
        rename Fr _ _ _ _ => F1
        rename News _ _ _ _ => N1
        have XH : (hd.heap_1 w.params).In h₁ := X'.keeps F1.keep
        have TH : TopH mean mg mb h₁ := T'.keeps F1.keep
        refine Stop.mk ⟨l, items.toArray, rfl, isList_at (F1.keep _ _ hl), ?_, (fun I D' C i m acc cs => ∃ (S : Heap) (u : Option Value), m = (fun y => if y = Str.ofString "part" then u else (fun _ => none) y) ∧ cs = frz h₁ S ∧ h₁.StaysIn S ∧ S.get? C = none ∧ S.get? I = none ∧ S.get? D' = none ∧ Trees w (newer h₁ S) acc (ds.take i)), ?_, ?_, ?_⟩
        · rw [List.size_toArray, hlen]
          have := len_le_sizeL ds
          simp only [D.size] at hsz
          omega
        · intro I D' C hI hD hC
          refine ⟨h₁, none, ins_none rfl, (frz_self _).symm, stays_refl _, ?_, ?_, ?_, Trees.nil⟩
          · exact Heap.get?_none_of_le (by subst hC; subst hD; subst hI; exact Nat.le_succ_of_le (Nat.le_succ _))
          · exact Heap.get?_none_of_le (by subst hI; exact Nat.le_refl _)
          · exact Heap.get?_none_of_le (by subst hD; subst hI; exact Nat.le_succ _)
        · rintro I D' C i v m acc ep cs h tk oI hI hD hC hv ⟨S, u, rfl, rfl, uS, sC, sI, sD, hT⟩ hac hcs F2 N2
          refine wpAny_tests_nil ?_
          rw [if_pos rfl]
          obtain ⟨di, hdi⟩ : ∃ d, ds[i]? = some d := by
            have : i < items.length := by simpa using (Array.getElem?_eq_some_iff.mp hv).1
            exact ⟨ds[i]'(hlen ▸ this), by simp [hlen ▸ this]⟩
          have hti := hch i v di (by simpa using hv) hdi
          k_steps
          have hd2 : D.ht di ≤ htL ds := ht_le (List.mem_of_getElem? hdi)
          have hs2 : D.size di ≤ sizeL ds := size_lt (List.mem_of_getElem? hdi)
          simp only [D.ht] at hn
          simp only [D.size] at hsz
          k_dflt refine' (Stop.mk (IH di (by omega) XH TH F2.keep (show dp + 1 + 2 * n + 16 < recursionLimit by omega) (show un + 3 + 60 * n + 90 < cLine by omega) rfl (hti.up (stays_trans F1.keep F2.keep)) (by omega) ?_))
          intro r h' tk' kp ht'
          obtain ⟨F5, N5⟩ := pure_call F2 N2 kp
          have hcc : ∀ p ∈ [(I, oI), (D', W.listOf acc.toArray ep)], p ∈ (I, oI) :: (D', W.listOf acc.toArray ep) :: frz h₁ S := fun p hp => by
            rcases List.mem_cons.mp hp with rfl | hp
            · exact .head _
            · rw [List.mem_singleton.mp hp]; exact .tail _ (.head _)
          obtain ⟨S', N6, u1, u2, o1, o2, o3, o4⟩ := refreeze [(I, oI), (D', W.listOf acc.toArray ep)] F5 N5 hcc (fun p hp => .tail _ (.tail _ hp)) uS sC (fun p hp => by
            rcases List.mem_cons.mp hp with rfl | hp
            · exact sI
            · rw [List.mem_singleton.mp hp]; exact sD)
          have oI' := o2 (I, oI) (.head _)
          have oD' := o2 (D', W.listOf acc.toArray ep) (.tail _ (.head _))
          refine Stop.mk ⟨h', tk', _, frz h₁ S', rfl, F5, N6, fun p hp => ⟨frz_off oI' p hp, frz_off oD' p hp⟩, S', some v, ins_twice, rfl, u1, o1, oI', oD', ?_⟩
          rw [take_snoc hdi]
          exact (hT.up (newer_up (stays_refl _) u2)).snoc (ht'.up (newer_frz F2 N2 hcc o3))
        · rintro I D' C m acc ep cs h' tk hI hD hC ⟨S, u, rfl, rfl, uS, sC, sI, sD, hT⟩ hac hst hDl hDn hcs
          dsimp only at hst hDl hDn hcs
          have F3 : Fr s.heap L' h' _ := Fr.kp (W := []) F1 (.of_stays hst) (fun q => nomatch q) (fun _ q => nomatch q)
          have nL : D' ≠ L' := fun q => by obtain ⟨o, _, _, e, _⟩ := F1.ns; rw [← q, hDn] at e; cases e
          have sN : s.heap.get? D' = none := by
            cases q : s.heap.get? D' with
            | none => rfl
            | some o => have := F1.keep _ _ q; rw [hDn] at this; cases this
          have N3 : News s.heap L' h' [(D', W.listOf acc.toArray ep)] := fun p hp => by
            rw [List.mem_singleton.mp hp]; exact ⟨hDl, nL, sN⟩
          have sL : s.heap.get? L' = none := by
            cases q : s.heap.get? L' with
            | none => rfl
            | some o => exact absurd (Heap.lt_size q) (Nat.not_lt.mpr F1.above)
          obtain ⟨S', N4, u1, u2, o1, o2, o3, o4⟩ := refreeze (S := s.heap) [(D', W.listOf acc.toArray ep)] F3 N3 (fun _ h => h) (by rw [frz_self]; exact fun _ q => nomatch q) (stays_refl _) sL (fun p hp => by rw [List.mem_singleton.mp hp]; exact sN)
          have hT' : Trees w (newer s.heap S') acc ds := by
            rw [show ds.take items.toArray.size = ds by rw [List.size_toArray, hlen]; exact List.take_length] at hT
            refine hT.up fun b o e => ?_
            obtain ⟨e1, e2⟩ := newer_iff.mp e
            have e3 := hcs (b, o) (mem_frz.mpr ⟨e1, e2⟩)
            refine newer_iff.mpr ⟨?_, o3 b o e3.1 (fun q => ?_) (fun p hp q => ?_)⟩
            · cases q : s.heap.get? b with
              | none => rfl
              | some x => have := F1.keep _ _ q; rw [e1] at this; cases this
            · subst q; obtain ⟨o, _, _, e, _⟩ := F1.ns; rw [e1] at e; cases e
            · rw [List.mem_singleton.mp hp] at q; exact e3.2.1 q.symm
          have oD' := o2 _ (.head _)
          clear N3 N1 F1 hcs
          k_steps
          simp only [D.size] at hsz
          have hl2 := len_le_sizeL ds
          have hl3 := hT'.1
          k_dflt refine' (Stop.mk (make_ok F3 N4 X' T' (show dp + 1 + 12 < recursionLimit by omega) (show un + 3 + 80 < cLine by omega) rfl (.head _) (by rw [sizeLine_eq]; omega) ?_))
          intro x dx c t1 t2 k1 h6 tk6 F6 N6 hne
          refine hQ _ _ _ (.of_stays F6.keep) ?_
          have nx := N6 _ (.head _)
          have nd := N6 _ (.tail _ (.head _))
          have nc := N6 _ (.tail _ (.tail _ (.head _)))
          have uS' : S'.StaysIn h6 := up_of F6 N6 (fun p hp => .tail _ (.tail _ (.tail _ (.tail _ hp)))) u1
          exact .node (newer_iff.mpr ⟨nx.2.2, nx.1⟩) (newer_iff.mpr ⟨nd.2.2, nd.1⟩) (newer_iff.mpr ⟨nc.2.2, nc.1⟩) hT'.1 fun i v d a b => (hT'.2 i v d a b).up (newer_up (stays_refl _) uS')
theorem lleaves_ok {w : World} : ∀ (n : Nat) (d : D) {A : Around} {s : Shared} {B : Heap} {mean : ExcName → Option Value} {mg mb : Str → Option Value} {v : Value} {Q E : Value → Shared → Prop},
    d.ht < n → (hd.heap_1 w.params).In B → TopH mean mg mb B → B.StaysIn s.heap → A.depth + n + 2 < recursionLimit → A.units + 40 * n + 40 < cLine → A.handled = none → DrawnAt s.heap v d → d.size ≤ 10000 →
    (∀ r vs k h' tk', Kp [] s.heap h' → s.heap.get? r = none → h'.get? r = some (W.listOf vs.toArray k) → Words vs d.leaves → Q (.ref r) { s with heap := h', toks := tk' }) →
    wpAny (model prog w) A (call (.ref 180) [v]) Q E s := by
  intro n
  induction n with
  | zero => exact fun d A s B mean mg mb v Q E hn => absurd hn (Nat.not_lt_zero _)
  | succ n IH => 
    intro d A s B mean mg mb v Q E hn X T U hd1 hu hh ht hsz hQ
    obtain ⟨hnd, dp, fr, gd, un⟩ := A
    obtain rfl : hnd = none := hh
    replace hd1 : dp + (n + 1) + 2 < recursionLimit := hd1
    replace hu : un + 40 * (n + 1) + 40 < cLine := hu
    refine wpAny_call ?_
    k_dflt (refine' enter (binds := [(Str.ofString "drawn", v)]) [] X T U ?hW ?k6 ?k7 ?k8 ?k9 ?kB ?_ ?c2 ?c3 ?c4 ?c5; (case k6 => k_is); (case k7 => k_is); (case k8 => (show dp < recursionLimit; omega)); (case k9 => first | exact BindsTo.of_eq rfl | exact binds_K (X.keeps U) rfl (by k_is) rfl rfl rfl); (case c5 => decide); (case kB => exact locs rfl); (case c2 => exact rfl); (case c3 => exact rfl); (case c4 => exact rfl))
    · exact fun _ h => nomatch h
    · intro g L' h₁ hg st F N X' T' up
      obtain rfl : g = s.heap := hg
      cases ht with
      | leaf =>
        (try dsimp only)
        k_fold
        k_steps
        rename Fr _ _ _ _ => F1
        rename News _ _ _ _ => N1
        have nr := N1 _ (.head _)
        exact hQ _ _ _ _ _ (.of_stays F1.keep) nr.2.2 nr.1 (Words.one _ _)
      | node ha hl hlen hch =>
        rename_i a l lab t k items ds
        (try dsimp only)
        k_fold
        have hT : IsTup s.heap a #[.str lab t, .ref l] := ⟨_, ha, rfl, _, rfl⟩
        have hT2 : s.heap.IsTuple a #[.str lab t, .ref l] := ⟨_, ha, rfl, _, rfl⟩
        have hS : s.heap.IsList l items.toArray := isList_at hl
        k_steps
        k_dflt refine' (Stop.mk (eval_listComp2 (cl := []) rfl (by with_unfolding_all rfl) (by decide) rfl (by decide) rfl rfl rfl ?_ (fun _ => rfl) (fun _ _ => rfl)))
        k_steps
        rename Fr _ _ _ _ => F1
        rename News _ _ _ _ => N1
        have XH : (hd.heap_1 w.params).In h₁ := X'.keeps F1.keep
        have TH : TopH mean mg mb h₁ := T'.keeps F1.keep
        have el : leavesL ds = leavesL (ds.take items.toArray.size) := by rw [List.size_toArray, hlen, List.take_length]
        refine Stop.mk ⟨l, items.toArray, rfl, isList_at (F1.keep _ _ hl), (fun I D' C i m acc cs => ∃ (u1 u2 : Option Value), m = (fun y => if y = Str.ofString "word" then u2 else (fun y => if y = Str.ofString "part" then u1 else (fun _ => none) y) y) ∧ cs = [] ∧ Words acc (leavesL (ds.take i))), ?_, ?_, ?_⟩
        · intro I D' C hI hD hC
          refine ⟨none, none, ?_, rfl, .nil⟩
          exact (ins_none rfl).trans (congrArg (fun m => fun y => if y = Str.ofString "word" then none else m y) (ins_none rfl))
        · rintro I D' C i v m acc ep cs h tk oI hI hD hC hv ⟨u1, u2, rfl, rfl, hw⟩ hcs F2 N2
          obtain ⟨di, hdi⟩ : ∃ d, ds[i]? = some d := by
            have : i < items.length := by simpa using (Array.getElem?_eq_some_iff.mp hv).1
            exact ⟨ds[i]'(hlen ▸ this), by simp [hlen ▸ this]⟩
          have hti := hch i v di (by simpa using hv) hdi
          k_steps
          have hd2 : D.ht di ≤ htL ds := ht_le (List.mem_of_getElem? hdi)
          have hs2 : D.size di ≤ sizeL ds := size_lt (List.mem_of_getElem? hdi)
          simp only [D.ht] at hn
          simp only [D.size] at hsz
          k_dflt refine' (Stop.mk (IH di (by omega) XH TH F2.keep (show dp + 1 + n + 2 < recursionLimit by omega) (show un + 3 + 40 * n + 40 < cLine by omega) rfl (hti.up (stays_trans F1.keep F2.keep)) (by omega) ?_))
          intro r vs kr h' tk' kp hr hget hw3
          obtain ⟨F5, N5, nr⟩ := fresh_call F2 N2 kp hr hget
          have hw' := leavesL_take_succ hdi
          have hacc : acc.length + vs.length ≤ 1000000 := by
            have h1 := hw.length; have h2 := leavesL_take_le ds (i + 1); rw [hw', List.length_append] at h2; have h3 := hw3.length; omega
          refine Stop.mk ⟨r, vs, h', tk', _, [], rfl, rfl, F5, News.sub N5 (fun p hp => .tail _ hp), (fun _ q => nomatch q), isList_at hget, Ne.symm (nr _ (.head _)), Ne.symm (nr _ (.tail _ (.head _))), (N5 _ (.head _)).2.1, hacc, fun u => ⟨some v, u, ?_, rfl, hw' ▸ hw.append hw3⟩⟩
          funext y
          by_cases q1 : y = Str.ofString "word"
          · simp [q1]
          · by_cases q2 : y = Str.ofString "part"
            · subst q2; simp [q1]
            · simp [q1, q2]
        · rintro I D' C m acc ep cs h' tk hI hD hC ⟨u1, u2, rfl, rfl, hw⟩ hst hDl hDn hcs
          dsimp only at hst hDl hDn
          have sN : s.heap.get? D' = none := by
            cases q : s.heap.get? D' with
            | none => rfl
            | some o => have := F1.keep _ _ q; rw [hDn] at this; cases this
          have F3 : Fr s.heap L' h' _ := Fr.kp (W := []) F1 (.of_stays hst) (fun q => nomatch q) (fun _ q => nomatch q)
          clear F1 N1
          k_steps
          rename Fr _ _ _ _ => F4
          rw [← el] at hw
          exact hQ _ _ _ _ _ (.of_stays F4.keep) sN hDl hw
section
local macro_rules | `(tactic| walk_at "exec While") => `(tactic| (k_here; refine stop ?_))
local macro_rules | `(tactic| walk_at "exec For Name") => `(tactic| (k_here; refine stop ?_))
local macro_rules | `(tactic| k_all) => `(tactic| exact frz_off (by assumption))
local macro_rules | `(tactic| walk_at "binaryOp Add ref ref") => `(tactic| (k_here; refine stop ?_))
section
local macro_rules | `(tactic| walk_at "subscriptTail") => `(tactic| (k_here; (with_reducible show wpAny _ _ (subscriptTail _ _ (Value.ref _) (Value.int _ _)) _ _ _); (with_unfolding_all refine' item_H ?k1 ?k2 ?k3 ?_ ?k4 ?k5; (case k1 => is_list); (case k2 => assumption); (case k3 => first | assumption | omega); (case k4 => with_unfolding_all rfl); (case k5 => (intro _; with_unfolding_all rfl)); k_whole)))
local macro_rules | `(tactic| walk_at "call builtin:len") => `(tactic| (k_here; (with_reducible show wpAny _ _ (call (Value.builtin "len") [Value.ref _]) _ _ _); (with_unfolding_all refine' len_H ?k1 ?k2 ?_; (case k1 => is_list); (case k2 => first | assumption | omega); k_whole)))
namespace CM1lenok
noncomputable section
abbrev Tup : Type := (World) × (Shared) × (Heap) × (ExcName → Option Value) × (Str → Option Value) × (Str → Option Value) × (Value → Shared → Prop) × (Value → Shared → Prop) × (Addr) × (Addr) × (Addr) × (Tok) × (Tok) × (Tok) × (Str) × (List Value) × (Nat) × (Nat) × (Option (List Env)) × (Option (List Code)) × (Nat)
def Pp : Tup → Prop := fun tt9 => (fun (w : World) (s : Shared) (B : Heap) (mean : ExcName → Option Value) (mg : Str → Option Value) (mb : Str → Option Value) (Q : Value → Shared → Prop) (E : Value → Shared → Prop) (x : Addr) (dx : Addr) (c : Addr) (t1 : Tok) (t2 : Tok) (t3 : Tok) (lab : Str) (items : List Value) (k : Nat) (dp : Nat) (fr : Option (List Env)) (gd : Option (List Code)) (un : Nat) => ∀ (X : (hd.heap_1 w.params).In B) (T : TopH mean mg mb B) (U : B.StaysIn s.heap) (hd1 : (⟨none, dp, fr, gd, un⟩ : Around).depth + 10 < recursionLimit) (hu : (⟨none, dp, fr, gd, un⟩ : Around).units + 80 < cLine) (h1 : s.heap.get? x = some (instObj 145 dx)) (h2 : s.heap.get? dx = some (dictOf (treeEs w t1 t2 c lab t3) 2)) (h3 : s.heap.get? c = some (W.listOf items.toArray k)) (hsz : items.length ≤ 100000) (hQ : ∀ t h' tk', Kp [] s.heap h' → Q (.int (items.length : Int) t) { s with heap := h', toks := tk' }), wpAny (model prog w) (⟨none, dp, fr, gd, un⟩ : Around) (call (.ref 50) [.ref x]) Q E s) tt9.1 tt9.2.1 tt9.2.2.1 tt9.2.2.2.1 tt9.2.2.2.2.1 tt9.2.2.2.2.2.1 tt9.2.2.2.2.2.2.1 tt9.2.2.2.2.2.2.2.1 tt9.2.2.2.2.2.2.2.2.1 tt9.2.2.2.2.2.2.2.2.2.1 tt9.2.2.2.2.2.2.2.2.2.2.1 tt9.2.2.2.2.2.2.2.2.2.2.2.1 tt9.2.2.2.2.2.2.2.2.2.2.2.2.1 tt9.2.2.2.2.2.2.2.2.2.2.2.2.2.1 tt9.2.2.2.2.2.2.2.2.2.2.2.2.2.2.1 tt9.2.2.2.2.2.2.2.2.2.2.2.2.2.2.2.1 tt9.2.2.2.2.2.2.2.2.2.2.2.2.2.2.2.2.1 tt9.2.2.2.2.2.2.2.2.2.2.2.2.2.2.2.2.2.1 tt9.2.2.2.2.2.2.2.2.2.2.2.2.2.2.2.2.2.2.1 tt9.2.2.2.2.2.2.2.2.2.2.2.2.2.2.2.2.2.2.2.1 tt9.2.2.2.2.2.2.2.2.2.2.2.2.2.2.2.2.2.2.2.2
def cc : Tup := @Classical.epsilon Tup (nePair neWorld (nePair neShared (nePair (⟨default⟩ : Nonempty (Heap)) (nePair (⟨default⟩ : Nonempty (ExcName → Option Value)) (nePair (⟨default⟩ : Nonempty (Str → Option Value)) (nePair (⟨default⟩ : Nonempty (Str → Option Value)) (nePair (⟨default⟩ : Nonempty (Value → Shared → Prop)) (nePair (⟨default⟩ : Nonempty (Value → Shared → Prop)) (nePair (⟨default⟩ : Nonempty (Addr)) (nePair (⟨default⟩ : Nonempty (Addr)) (nePair (⟨default⟩ : Nonempty (Addr)) (nePair (⟨default⟩ : Nonempty (Tok)) (nePair (⟨default⟩ : Nonempty (Tok)) (nePair (⟨default⟩ : Nonempty (Tok)) (nePair (⟨default⟩ : Nonempty (Str)) (nePair (⟨default⟩ : Nonempty (List Value)) (nePair (⟨default⟩ : Nonempty (Nat)) (nePair (⟨default⟩ : Nonempty (Nat)) (nePair (⟨default⟩ : Nonempty (Option (List Env))) (nePair (⟨default⟩ : Nonempty (Option (List Code))) (⟨default⟩ : Nonempty (Nat)))))))))))))))))))))) fun t => ¬ Pp t
def w : World := cc.1
def s : Shared := cc.2.1
def B : Heap := cc.2.2.1
def mean : ExcName → Option Value := cc.2.2.2.1
def mg : Str → Option Value := cc.2.2.2.2.1
def mb : Str → Option Value := cc.2.2.2.2.2.1
def Q : Value → Shared → Prop := cc.2.2.2.2.2.2.1
def E : Value → Shared → Prop := cc.2.2.2.2.2.2.2.1
def x : Addr := cc.2.2.2.2.2.2.2.2.1
def dx : Addr := cc.2.2.2.2.2.2.2.2.2.1
def c : Addr := cc.2.2.2.2.2.2.2.2.2.2.1
def t1 : Tok := cc.2.2.2.2.2.2.2.2.2.2.2.1
def t2 : Tok := cc.2.2.2.2.2.2.2.2.2.2.2.2.1
def t3 : Tok := cc.2.2.2.2.2.2.2.2.2.2.2.2.2.1
def lab : Str := cc.2.2.2.2.2.2.2.2.2.2.2.2.2.2.1
def items : List Value := cc.2.2.2.2.2.2.2.2.2.2.2.2.2.2.2.1
def k : Nat := cc.2.2.2.2.2.2.2.2.2.2.2.2.2.2.2.2.1
def dp : Nat := cc.2.2.2.2.2.2.2.2.2.2.2.2.2.2.2.2.2.1
def fr : Option (List Env) := cc.2.2.2.2.2.2.2.2.2.2.2.2.2.2.2.2.2.2.1
def gd : Option (List Code) := cc.2.2.2.2.2.2.2.2.2.2.2.2.2.2.2.2.2.2.2.1
def un : Nat := cc.2.2.2.2.2.2.2.2.2.2.2.2.2.2.2.2.2.2.2.2
def L' : Addr := s.heap.objs.size
theorem core (X : (hd.heap_1 w.params).In B) (T : TopH mean mg mb B) (U : B.StaysIn s.heap) (hd1 : (⟨none, dp, fr, gd, un⟩ : Around).depth + 10 < recursionLimit) (hu : (⟨none, dp, fr, gd, un⟩ : Around).units + 80 < cLine) (h1 : s.heap.get? x = some (instObj 145 dx)) (h2 : s.heap.get? dx = some (dictOf (treeEs w t1 t2 c lab t3) 2)) (h3 : s.heap.get? c = some (W.listOf items.toArray k)) (hsz : items.length ≤ 100000) (hQ : ∀ t h' tk', Kp [] s.heap h' → Q (.int (items.length : Int) t) { s with heap := h', toks := tk' }) : wpAny (model prog w) (⟨none, dp, fr, gd, un⟩ : Around) (call (.ref 50) [.ref x]) Q E s := by
    replace hd1 : dp + 10 < recursionLimit := hd1
    replace hu : un + 80 < cLine := hu
    refine wpAny_call ?_
    k_dflt (refine' enter2 (L₀ := L') (binds := [(Str.ofString "self", .ref x)]) [] X T U ?hW ?k6 ?k7 ?k8 ?k9 ?kB ?_ ?c2 ?c3 ?c4 ?c5; (case k6 => k_is); (case k7 => k_is); (case k8 => (show dp < recursionLimit; omega)); (case k9 => first | exact BindsTo.of_eq rfl | exact binds_K (X.keeps U) rfl (by k_is) rfl rfl rfl); (case c5 => decide); (case kB => exact locs rfl); (case c2 => exact rfl); (case c3 => exact rfl); (case c4 => exact rfl))
    · exact fun _ h => nomatch h
    · intro g h₁ hg st F N X' T' up
      obtain rfl : g = s.heap := hg
      (try dsimp only)
      k_fold
      have hS : s.heap.IsList c items.toArray := isList_at h3
      k_steps
      rename Fr _ _ _ _ => F1
      exact hQ _ _ _ (.of_stays F1.keep)
end
end CM1lenok
theorem len_ok {w : World} {A : Around} {s : Shared} {B : Heap} {mean : ExcName → Option Value} {mg mb : Str → Option Value} {Q E : Value → Shared → Prop} {x dx c : Addr} {t1 t2 t3 : Tok} {lab : Str} {items : List Value} {k : Nat}
    (X : (hd.heap_1 w.params).In B) (T : TopH mean mg mb B) (U : B.StaysIn s.heap) (hd1 : A.depth + 10 < recursionLimit) (hu : A.units + 80 < cLine) (hh : A.handled = none) (h1 : s.heap.get? x = some (instObj 145 dx)) (h2 : s.heap.get? dx = some (dictOf (treeEs w t1 t2 c lab t3) 2)) (h3 : s.heap.get? c = some (W.listOf items.toArray k)) (hsz : items.length ≤ 100000)
    (hQ : ∀ t h' tk', Kp [] s.heap h' → Q (.int (items.length : Int) t) { s with heap := h', toks := tk' }) :
    wpAny (model prog w) A (call (.ref 50) [.ref x]) Q E s := by
  obtain ⟨hnd, dp, fr, gd, un⟩ := A
  obtain rfl : hnd = none := hh
  have h : ∀ t, CM1lenok.Pp t := epsAll (nePair neWorld (nePair neShared (nePair (⟨default⟩ : Nonempty (Heap)) (nePair (⟨default⟩ : Nonempty (ExcName → Option Value)) (nePair (⟨default⟩ : Nonempty (Str → Option Value)) (nePair (⟨default⟩ : Nonempty (Str → Option Value)) (nePair (⟨default⟩ : Nonempty (Value → Shared → Prop)) (nePair (⟨default⟩ : Nonempty (Value → Shared → Prop)) (nePair (⟨default⟩ : Nonempty (Addr)) (nePair (⟨default⟩ : Nonempty (Addr)) (nePair (⟨default⟩ : Nonempty (Addr)) (nePair (⟨default⟩ : Nonempty (Tok)) (nePair (⟨default⟩ : Nonempty (Tok)) (nePair (⟨default⟩ : Nonempty (Tok)) (nePair (⟨default⟩ : Nonempty (Str)) (nePair (⟨default⟩ : Nonempty (List Value)) (nePair (⟨default⟩ : Nonempty (Nat)) (nePair (⟨default⟩ : Nonempty (Nat)) (nePair (⟨default⟩ : Nonempty (Option (List Env))) (nePair (⟨default⟩ : Nonempty (Option (List Code))) (⟨default⟩ : Nonempty (Nat)))))))))))))))))))))) CM1lenok.Pp CM1lenok.core
  exact h ⟨w, s, B, mean, mg, mb, Q, E, x, dx, c, t1, t2, t3, lab, items, k, dp, fr, gd, un⟩ X T U hd1 hu h1 h2 h3 hsz hQ
namespace CM1labelok
noncomputable section
abbrev Tup : Type := (World) × (Shared) × (Heap) × (ExcName → Option Value) × (Str → Option Value) × (Str → Option Value) × (Value → Shared → Prop) × (Value → Shared → Prop) × (Addr) × (Addr) × (Addr) × (Tok) × (Tok) × (Tok) × (Str) × (List Value) × (Nat) × (Nat) × (Option (List Env)) × (Option (List Code)) × (Nat)
def Pp : Tup → Prop := fun tt9 => (fun (w : World) (s : Shared) (B : Heap) (mean : ExcName → Option Value) (mg : Str → Option Value) (mb : Str → Option Value) (Q : Value → Shared → Prop) (E : Value → Shared → Prop) (x : Addr) (dx : Addr) (c : Addr) (t1 : Tok) (t2 : Tok) (t3 : Tok) (lab : Str) (items : List Value) (k : Nat) (dp : Nat) (fr : Option (List Env)) (gd : Option (List Code)) (un : Nat) => ∀ (X : (hd.heap_1 w.params).In B) (T : TopH mean mg mb B) (U : B.StaysIn s.heap) (hd1 : (⟨none, dp, fr, gd, un⟩ : Around).depth + 10 < recursionLimit) (hu : (⟨none, dp, fr, gd, un⟩ : Around).units + 80 < cLine) (h1 : s.heap.get? x = some (instObj 145 dx)) (h2 : s.heap.get? dx = some (dictOf (treeEs w t1 t2 c lab t3) 2)) (h3 : s.heap.get? c = some (W.listOf items.toArray k)) (hsz : items.length ≤ 100000) (hQ : ∀ t h' tk', Kp [] s.heap h' → Q (.str lab t) { s with heap := h', toks := tk' }), wpAny (model prog w) (⟨none, dp, fr, gd, un⟩ : Around) (call (.ref 71) [.ref x]) Q E s) tt9.1 tt9.2.1 tt9.2.2.1 tt9.2.2.2.1 tt9.2.2.2.2.1 tt9.2.2.2.2.2.1 tt9.2.2.2.2.2.2.1 tt9.2.2.2.2.2.2.2.1 tt9.2.2.2.2.2.2.2.2.1 tt9.2.2.2.2.2.2.2.2.2.1 tt9.2.2.2.2.2.2.2.2.2.2.1 tt9.2.2.2.2.2.2.2.2.2.2.2.1 tt9.2.2.2.2.2.2.2.2.2.2.2.2.1 tt9.2.2.2.2.2.2.2.2.2.2.2.2.2.1 tt9.2.2.2.2.2.2.2.2.2.2.2.2.2.2.1 tt9.2.2.2.2.2.2.2.2.2.2.2.2.2.2.2.1 tt9.2.2.2.2.2.2.2.2.2.2.2.2.2.2.2.2.1 tt9.2.2.2.2.2.2.2.2.2.2.2.2.2.2.2.2.2.1 tt9.2.2.2.2.2.2.2.2.2.2.2.2.2.2.2.2.2.2.1 tt9.2.2.2.2.2.2.2.2.2.2.2.2.2.2.2.2.2.2.2.1 tt9.2.2.2.2.2.2.2.2.2.2.2.2.2.2.2.2.2.2.2.2
def cc : Tup := @Classical.epsilon Tup (nePair neWorld (nePair neShared (nePair (⟨default⟩ : Nonempty (Heap)) (nePair (⟨default⟩ : Nonempty (ExcName → Option Value)) (nePair (⟨default⟩ : Nonempty (Str → Option Value)) (nePair (⟨default⟩ : Nonempty (Str → Option Value)) (nePair (⟨default⟩ : Nonempty (Value → Shared → Prop)) (nePair (⟨default⟩ : Nonempty (Value → Shared → Prop)) (nePair (⟨default⟩ : Nonempty (Addr)) (nePair (⟨default⟩ : Nonempty (Addr)) (nePair (⟨default⟩ : Nonempty (Addr)) (nePair (⟨default⟩ : Nonempty (Tok)) (nePair (⟨default⟩ : Nonempty (Tok)) (nePair (⟨default⟩ : Nonempty (Tok)) (nePair (⟨default⟩ : Nonempty (Str)) (nePair (⟨default⟩ : Nonempty (List Value)) (nePair (⟨default⟩ : Nonempty (Nat)) (nePair (⟨default⟩ : Nonempty (Nat)) (nePair (⟨default⟩ : Nonempty (Option (List Env))) (nePair (⟨default⟩ : Nonempty (Option (List Code))) (⟨default⟩ : Nonempty (Nat)))))))))))))))))))))) fun t => ¬ Pp t
def w : World := cc.1
def s : Shared := cc.2.1
def B : Heap := cc.2.2.1
def mean : ExcName → Option Value := cc.2.2.2.1
def mg : Str → Option Value := cc.2.2.2.2.1
def mb : Str → Option Value := cc.2.2.2.2.2.1
def Q : Value → Shared → Prop := cc.2.2.2.2.2.2.1
def E : Value → Shared → Prop := cc.2.2.2.2.2.2.2.1
def x : Addr := cc.2.2.2.2.2.2.2.2.1
def dx : Addr := cc.2.2.2.2.2.2.2.2.2.1
def c : Addr := cc.2.2.2.2.2.2.2.2.2.2.1
def t1 : Tok := cc.2.2.2.2.2.2.2.2.2.2.2.1
def t2 : Tok := cc.2.2.2.2.2.2.2.2.2.2.2.2.1
def t3 : Tok := cc.2.2.2.2.2.2.2.2.2.2.2.2.2.1
def lab : Str := cc.2.2.2.2.2.2.2.2.2.2.2.2.2.2.1
def items : List Value := cc.2.2.2.2.2.2.2.2.2.2.2.2.2.2.2.1
def k : Nat := cc.2.2.2.2.2.2.2.2.2.2.2.2.2.2.2.2.1
def dp : Nat := cc.2.2.2.2.2.2.2.2.2.2.2.2.2.2.2.2.2.1
def fr : Option (List Env) := cc.2.2.2.2.2.2.2.2.2.2.2.2.2.2.2.2.2.2.1
def gd : Option (List Code) := cc.2.2.2.2.2.2.2.2.2.2.2.2.2.2.2.2.2.2.2.1
def un : Nat := cc.2.2.2.2.2.2.2.2.2.2.2.2.2.2.2.2.2.2.2.2
def L' : Addr := s.heap.objs.size
theorem core (X : (hd.heap_1 w.params).In B) (T : TopH mean mg mb B) (U : B.StaysIn s.heap) (hd1 : (⟨none, dp, fr, gd, un⟩ : Around).depth + 10 < recursionLimit) (hu : (⟨none, dp, fr, gd, un⟩ : Around).units + 80 < cLine) (h1 : s.heap.get? x = some (instObj 145 dx)) (h2 : s.heap.get? dx = some (dictOf (treeEs w t1 t2 c lab t3) 2)) (h3 : s.heap.get? c = some (W.listOf items.toArray k)) (hsz : items.length ≤ 100000) (hQ : ∀ t h' tk', Kp [] s.heap h' → Q (.str lab t) { s with heap := h', toks := tk' }) : wpAny (model prog w) (⟨none, dp, fr, gd, un⟩ : Around) (call (.ref 71) [.ref x]) Q E s := by
    replace hd1 : dp + 10 < recursionLimit := hd1
    replace hu : un + 80 < cLine := hu
    refine wpAny_call ?_
    k_dflt (refine' enter2 (L₀ := L') (binds := [(Str.ofString "self", .ref x)]) [] X T U ?hW ?k6 ?k7 ?k8 ?k9 ?kB ?_ ?c2 ?c3 ?c4 ?c5; (case k6 => k_is); (case k7 => k_is); (case k8 => (show dp < recursionLimit; omega)); (case k9 => first | exact BindsTo.of_eq rfl | exact binds_K (X.keeps U) rfl (by k_is) rfl rfl rfl); (case c5 => decide); (case kB => exact locs rfl); (case c2 => exact rfl); (case c3 => exact rfl); (case c4 => exact rfl))
    · exact fun _ h => nomatch h
    · intro g h₁ hg st F N X' T' up
      obtain rfl : g = s.heap := hg
      (try dsimp only)
      k_fold
      k_steps
      rename Fr _ _ _ _ => F1
      exact hQ _ _ _ (.of_stays F1.keep)
end
end CM1labelok
theorem label_ok {w : World} {A : Around} {s : Shared} {B : Heap} {mean : ExcName → Option Value} {mg mb : Str → Option Value} {Q E : Value → Shared → Prop} {x dx c : Addr} {t1 t2 t3 : Tok} {lab : Str} {items : List Value} {k : Nat}
    (X : (hd.heap_1 w.params).In B) (T : TopH mean mg mb B) (U : B.StaysIn s.heap) (hd1 : A.depth + 10 < recursionLimit) (hu : A.units + 80 < cLine) (hh : A.handled = none) (h1 : s.heap.get? x = some (instObj 145 dx)) (h2 : s.heap.get? dx = some (dictOf (treeEs w t1 t2 c lab t3) 2)) (h3 : s.heap.get? c = some (W.listOf items.toArray k)) (hsz : items.length ≤ 100000)
    (hQ : ∀ t h' tk', Kp [] s.heap h' → Q (.str lab t) { s with heap := h', toks := tk' }) :
    wpAny (model prog w) A (call (.ref 71) [.ref x]) Q E s := by
  obtain ⟨hnd, dp, fr, gd, un⟩ := A
  obtain rfl : hnd = none := hh
  have h : ∀ t, CM1labelok.Pp t := epsAll (nePair neWorld (nePair neShared (nePair (⟨default⟩ : Nonempty (Heap)) (nePair (⟨default⟩ : Nonempty (ExcName → Option Value)) (nePair (⟨default⟩ : Nonempty (Str → Option Value)) (nePair (⟨default⟩ : Nonempty (Str → Option Value)) (nePair (⟨default⟩ : Nonempty (Value → Shared → Prop)) (nePair (⟨default⟩ : Nonempty (Value → Shared → Prop)) (nePair (⟨default⟩ : Nonempty (Addr)) (nePair (⟨default⟩ : Nonempty (Addr)) (nePair (⟨default⟩ : Nonempty (Addr)) (nePair (⟨default⟩ : Nonempty (Tok)) (nePair (⟨default⟩ : Nonempty (Tok)) (nePair (⟨default⟩ : Nonempty (Tok)) (nePair (⟨default⟩ : Nonempty (Str)) (nePair (⟨default⟩ : Nonempty (List Value)) (nePair (⟨default⟩ : Nonempty (Nat)) (nePair (⟨default⟩ : Nonempty (Nat)) (nePair (⟨default⟩ : Nonempty (Option (List Env))) (nePair (⟨default⟩ : Nonempty (Option (List Code))) (⟨default⟩ : Nonempty (Nat)))))))))))))))))))))) CM1labelok.Pp CM1labelok.core
  exact h ⟨w, s, B, mean, mg, mb, Q, E, x, dx, c, t1, t2, t3, lab, items, k, dp, fr, gd, un⟩ X T U hd1 hu h1 h2 h3 hsz hQ
namespace CM1getintok
noncomputable section
abbrev Tup : Type := (World) × (Shared) × (Heap) × (ExcName → Option Value) × (Str → Option Value) × (Str → Option Value) × (Value → Shared → Prop) × (Value → Shared → Prop) × (Addr) × (Addr) × (Addr) × (Tok) × (Tok) × (Tok) × (Str) × (List Value) × (Nat) × (Nat) × (Tok) × (Value) × (Nat) × (Option (List Env)) × (Option (List Code)) × (Nat)
def Pp : Tup → Prop := fun tt9 => (fun (w : World) (s : Shared) (B : Heap) (mean : ExcName → Option Value) (mg : Str → Option Value) (mb : Str → Option Value) (Q : Value → Shared → Prop) (E : Value → Shared → Prop) (x : Addr) (dx : Addr) (c : Addr) (t1 : Tok) (t2 : Tok) (t3 : Tok) (lab : Str) (items : List Value) (k : Nat) (i : Nat) (t : Tok) (v : Value) (dp : Nat) (fr : Option (List Env)) (gd : Option (List Code)) (un : Nat) => ∀ (X : (hd.heap_1 w.params).In B) (T : TopH mean mg mb B) (U : B.StaysIn s.heap) (hd1 : (⟨none, dp, fr, gd, un⟩ : Around).depth + 10 < recursionLimit) (hu : (⟨none, dp, fr, gd, un⟩ : Around).units + 80 < cLine) (h1 : s.heap.get? x = some (instObj 145 dx)) (h2 : s.heap.get? dx = some (dictOf (treeEs w t1 t2 c lab t3) 2)) (h3 : s.heap.get? c = some (W.listOf items.toArray k)) (hi : items[i]? = some v) (hsz : items.length ≤ 100000) (hQ : ∀ h' tk', Kp [] s.heap h' → Q v { s with heap := h', toks := tk' }), wpAny (model prog w) (⟨none, dp, fr, gd, un⟩ : Around) (call (.ref 57) [.ref x, .int (i : Int) t]) Q E s) tt9.1 tt9.2.1 tt9.2.2.1 tt9.2.2.2.1 tt9.2.2.2.2.1 tt9.2.2.2.2.2.1 tt9.2.2.2.2.2.2.1 tt9.2.2.2.2.2.2.2.1 tt9.2.2.2.2.2.2.2.2.1 tt9.2.2.2.2.2.2.2.2.2.1 tt9.2.2.2.2.2.2.2.2.2.2.1 tt9.2.2.2.2.2.2.2.2.2.2.2.1 tt9.2.2.2.2.2.2.2.2.2.2.2.2.1 tt9.2.2.2.2.2.2.2.2.2.2.2.2.2.1 tt9.2.2.2.2.2.2.2.2.2.2.2.2.2.2.1 tt9.2.2.2.2.2.2.2.2.2.2.2.2.2.2.2.1 tt9.2.2.2.2.2.2.2.2.2.2.2.2.2.2.2.2.1 tt9.2.2.2.2.2.2.2.2.2.2.2.2.2.2.2.2.2.1 tt9.2.2.2.2.2.2.2.2.2.2.2.2.2.2.2.2.2.2.1 tt9.2.2.2.2.2.2.2.2.2.2.2.2.2.2.2.2.2.2.2.1 tt9.2.2.2.2.2.2.2.2.2.2.2.2.2.2.2.2.2.2.2.2.1 tt9.2.2.2.2.2.2.2.2.2.2.2.2.2.2.2.2.2.2.2.2.2.1 tt9.2.2.2.2.2.2.2.2.2.2.2.2.2.2.2.2.2.2.2.2.2.2.1 tt9.2.2.2.2.2.2.2.2.2.2.2.2.2.2.2.2.2.2.2.2.2.2.2
def cc : Tup := @Classical.epsilon Tup (nePair neWorld (nePair neShared (nePair (⟨default⟩ : Nonempty (Heap)) (nePair (⟨default⟩ : Nonempty (ExcName → Option Value)) (nePair (⟨default⟩ : Nonempty (Str → Option Value)) (nePair (⟨default⟩ : Nonempty (Str → Option Value)) (nePair (⟨default⟩ : Nonempty (Value → Shared → Prop)) (nePair (⟨default⟩ : Nonempty (Value → Shared → Prop)) (nePair (⟨default⟩ : Nonempty (Addr)) (nePair (⟨default⟩ : Nonempty (Addr)) (nePair (⟨default⟩ : Nonempty (Addr)) (nePair (⟨default⟩ : Nonempty (Tok)) (nePair (⟨default⟩ : Nonempty (Tok)) (nePair (⟨default⟩ : Nonempty (Tok)) (nePair (⟨default⟩ : Nonempty (Str)) (nePair (⟨default⟩ : Nonempty (List Value)) (nePair (⟨default⟩ : Nonempty (Nat)) (nePair (⟨default⟩ : Nonempty (Nat)) (nePair (⟨default⟩ : Nonempty (Tok)) (nePair (⟨default⟩ : Nonempty (Value)) (nePair (⟨default⟩ : Nonempty (Nat)) (nePair (⟨default⟩ : Nonempty (Option (List Env))) (nePair (⟨default⟩ : Nonempty (Option (List Code))) (⟨default⟩ : Nonempty (Nat))))))))))))))))))))))))) fun t => ¬ Pp t
def w : World := cc.1
def s : Shared := cc.2.1
def B : Heap := cc.2.2.1
def mean : ExcName → Option Value := cc.2.2.2.1
def mg : Str → Option Value := cc.2.2.2.2.1
def mb : Str → Option Value := cc.2.2.2.2.2.1
def Q : Value → Shared → Prop := cc.2.2.2.2.2.2.1
def E : Value → Shared → Prop := cc.2.2.2.2.2.2.2.1
def x : Addr := cc.2.2.2.2.2.2.2.2.1
def dx : Addr := cc.2.2.2.2.2.2.2.2.2.1
def c : Addr := cc.2.2.2.2.2.2.2.2.2.2.1
def t1 : Tok := cc.2.2.2.2.2.2.2.2.2.2.2.1
def t2 : Tok := cc.2.2.2.2.2.2.2.2.2.2.2.2.1
def t3 : Tok := cc.2.2.2.2.2.2.2.2.2.2.2.2.2.1
def lab : Str := cc.2.2.2.2.2.2.2.2.2.2.2.2.2.2.1
def items : List Value := cc.2.2.2.2.2.2.2.2.2.2.2.2.2.2.2.1
def k : Nat := cc.2.2.2.2.2.2.2.2.2.2.2.2.2.2.2.2.1
def i : Nat := cc.2.2.2.2.2.2.2.2.2.2.2.2.2.2.2.2.2.1
def t : Tok := cc.2.2.2.2.2.2.2.2.2.2.2.2.2.2.2.2.2.2.1
def v : Value := cc.2.2.2.2.2.2.2.2.2.2.2.2.2.2.2.2.2.2.2.1
def dp : Nat := cc.2.2.2.2.2.2.2.2.2.2.2.2.2.2.2.2.2.2.2.2.1
def fr : Option (List Env) := cc.2.2.2.2.2.2.2.2.2.2.2.2.2.2.2.2.2.2.2.2.2.1
def gd : Option (List Code) := cc.2.2.2.2.2.2.2.2.2.2.2.2.2.2.2.2.2.2.2.2.2.2.1
def un : Nat := cc.2.2.2.2.2.2.2.2.2.2.2.2.2.2.2.2.2.2.2.2.2.2.2
def L' : Addr := s.heap.objs.size
theorem core (X : (hd.heap_1 w.params).In B) (T : TopH mean mg mb B) (U : B.StaysIn s.heap) (hd1 : (⟨none, dp, fr, gd, un⟩ : Around).depth + 10 < recursionLimit) (hu : (⟨none, dp, fr, gd, un⟩ : Around).units + 80 < cLine) (h1 : s.heap.get? x = some (instObj 145 dx)) (h2 : s.heap.get? dx = some (dictOf (treeEs w t1 t2 c lab t3) 2)) (h3 : s.heap.get? c = some (W.listOf items.toArray k)) (hi : items[i]? = some v) (hsz : items.length ≤ 100000) (hQ : ∀ h' tk', Kp [] s.heap h' → Q v { s with heap := h', toks := tk' }) : wpAny (model prog w) (⟨none, dp, fr, gd, un⟩ : Around) (call (.ref 57) [.ref x, .int (i : Int) t]) Q E s := by
    replace hd1 : dp + 10 < recursionLimit := hd1
    replace hu : un + 80 < cLine := hu
    refine wpAny_call ?_
    k_dflt (refine' enter2 (L₀ := L') (binds := [(Str.ofString "self", .ref x), (Str.ofString "index", .int (i : Int) t)]) [] X T U ?hW ?k6 ?k7 ?k8 ?k9 ?kB ?_ ?c2 ?c3 ?c4 ?c5; (case k6 => k_is); (case k7 => k_is); (case k8 => (show dp < recursionLimit; omega)); (case k9 => first | exact BindsTo.of_eq rfl | exact binds_K (X.keeps U) rfl (by k_is) rfl rfl rfl); (case c5 => decide); (case kB => exact locs rfl); (case c2 => exact rfl); (case c3 => exact rfl); (case c4 => exact rfl))
    · exact fun _ h => nomatch h
    · intro g h₁ hg st F N X' T' up
      obtain rfl : g = s.heap := hg
      (try dsimp only)
      k_fold
      have hS : s.heap.IsList c items.toArray := isList_at h3
      k_steps
      rename Fr _ _ _ _ => F1
      exact hQ _ _ (.of_stays F1.keep)
end
end CM1getintok
theorem getint_ok {w : World} {A : Around} {s : Shared} {B : Heap} {mean : ExcName → Option Value} {mg mb : Str → Option Value} {Q E : Value → Shared → Prop} {x dx c : Addr} {t1 t2 t3 : Tok} {lab : Str} {items : List Value} {k : Nat} {i : Nat} {t : Tok} {v : Value}
    (X : (hd.heap_1 w.params).In B) (T : TopH mean mg mb B) (U : B.StaysIn s.heap) (hd1 : A.depth + 10 < recursionLimit) (hu : A.units + 80 < cLine) (hh : A.handled = none) (h1 : s.heap.get? x = some (instObj 145 dx)) (h2 : s.heap.get? dx = some (dictOf (treeEs w t1 t2 c lab t3) 2)) (h3 : s.heap.get? c = some (W.listOf items.toArray k)) (hi : items[i]? = some v) (hsz : items.length ≤ 100000)
    (hQ : ∀ h' tk', Kp [] s.heap h' → Q v { s with heap := h', toks := tk' }) :
    wpAny (model prog w) A (call (.ref 57) [.ref x, .int (i : Int) t]) Q E s := by
  obtain ⟨hnd, dp, fr, gd, un⟩ := A
  obtain rfl : hnd = none := hh
  have h : ∀ t, CM1getintok.Pp t := epsAll (nePair neWorld (nePair neShared (nePair (⟨default⟩ : Nonempty (Heap)) (nePair (⟨default⟩ : Nonempty (ExcName → Option Value)) (nePair (⟨default⟩ : Nonempty (Str → Option Value)) (nePair (⟨default⟩ : Nonempty (Str → Option Value)) (nePair (⟨default⟩ : Nonempty (Value → Shared → Prop)) (nePair (⟨default⟩ : Nonempty (Value → Shared → Prop)) (nePair (⟨default⟩ : Nonempty (Addr)) (nePair (⟨default⟩ : Nonempty (Addr)) (nePair (⟨default⟩ : Nonempty (Addr)) (nePair (⟨default⟩ : Nonempty (Tok)) (nePair (⟨default⟩ : Nonempty (Tok)) (nePair (⟨default⟩ : Nonempty (Tok)) (nePair (⟨default⟩ : Nonempty (Str)) (nePair (⟨default⟩ : Nonempty (List Value)) (nePair (⟨default⟩ : Nonempty (Nat)) (nePair (⟨default⟩ : Nonempty (Nat)) (nePair (⟨default⟩ : Nonempty (Tok)) (nePair (⟨default⟩ : Nonempty (Value)) (nePair (⟨default⟩ : Nonempty (Nat)) (nePair (⟨default⟩ : Nonempty (Option (List Env))) (nePair (⟨default⟩ : Nonempty (Option (List Code))) (⟨default⟩ : Nonempty (Nat))))))))))))))))))))))))) CM1getintok.Pp CM1getintok.core
  exact h ⟨w, s, B, mean, mg, mb, Q, E, x, dx, c, t1, t2, t3, lab, items, k, i, t, v, dp, fr, gd, un⟩ X T U hd1 hu h1 h2 h3 hi hsz hQ
section
local macro_rules | `(tactic| walk_at "call builtin:list.pop") => `(tactic| (k_here; k_dflt (refine' pop_H ?F ?N ?U ?z ?_; (case F => k_asm); (case N => k_asm); (case U => k_upd); (case z => assumption)); intro h' F' N'))
namespace CPTfltpok
noncomputable section
abbrev Tup : Type := (World) × (D) × (Shared) × (Heap) × (ExcName → Option Value) × (Str → Option Value) × (Str → Option Value) × (Addr) × (Nat) × (Tok) × (Value → Shared → Prop) × (Value → Shared → Prop) × (Nat) × (Option (List Env)) × (Option (List Code)) × (Nat)
def Pp : Tup → Prop := fun tt9 => (fun (w : World) (d : D) (s : Shared) (B : Heap) (mean : ExcName → Option Value) (mg : Str → Option Value) (mb : Str → Option Value) (x : Addr) (k : Nat) (t : Tok) (Q : Value → Shared → Prop) (E : Value → Shared → Prop) (dp : Nat) (fr : Option (List Env)) (gd : Option (List Code)) (un : Nat) => ∀ (X : (hd.heap_1 w.params).In B) (T : TopH mean mg mb B) (U : B.StaysIn s.heap) (hd1 : (⟨none, dp, fr, gd, un⟩ : Around).depth + 20 < recursionLimit) (hu : (⟨none, dp, fr, gd, un⟩ : Around).units + 200 < cLine) (ht : TreeAt w s.heap (.ref x) d) (hsz : d.size ≤ 9000) (hk : k < d.leaves.length) (hQ : ∀ r h' tk' p, Kp [] s.heap h' → d.paths[k]? = some p → PathAt (newer s.heap h') r p → Q r { s with heap := h', toks := tk' }), wpAny (model prog w) (⟨none, dp, fr, gd, un⟩ : Around) (call (.ref 135) [.ref x, .int k t]) Q E s) tt9.1 tt9.2.1 tt9.2.2.1 tt9.2.2.2.1 tt9.2.2.2.2.1 tt9.2.2.2.2.2.1 tt9.2.2.2.2.2.2.1 tt9.2.2.2.2.2.2.2.1 tt9.2.2.2.2.2.2.2.2.1 tt9.2.2.2.2.2.2.2.2.2.1 tt9.2.2.2.2.2.2.2.2.2.2.1 tt9.2.2.2.2.2.2.2.2.2.2.2.1 tt9.2.2.2.2.2.2.2.2.2.2.2.2.1 tt9.2.2.2.2.2.2.2.2.2.2.2.2.2.1 tt9.2.2.2.2.2.2.2.2.2.2.2.2.2.2.1 tt9.2.2.2.2.2.2.2.2.2.2.2.2.2.2.2
def cc : Tup := @Classical.epsilon Tup (nePair neWorld (nePair neD (nePair neShared (nePair (⟨default⟩ : Nonempty (Heap)) (nePair (⟨default⟩ : Nonempty (ExcName → Option Value)) (nePair (⟨default⟩ : Nonempty (Str → Option Value)) (nePair (⟨default⟩ : Nonempty (Str → Option Value)) (nePair (⟨default⟩ : Nonempty (Addr)) (nePair (⟨default⟩ : Nonempty (Nat)) (nePair (⟨default⟩ : Nonempty (Tok)) (nePair (⟨default⟩ : Nonempty (Value → Shared → Prop)) (nePair (⟨default⟩ : Nonempty (Value → Shared → Prop)) (nePair (⟨default⟩ : Nonempty (Nat)) (nePair (⟨default⟩ : Nonempty (Option (List Env))) (nePair (⟨default⟩ : Nonempty (Option (List Code))) (⟨default⟩ : Nonempty (Nat))))))))))))))))) fun t => ¬ Pp t
def w : World := cc.1
def d : D := cc.2.1
def s : Shared := cc.2.2.1
def B : Heap := cc.2.2.2.1
def mean : ExcName → Option Value := cc.2.2.2.2.1
def mg : Str → Option Value := cc.2.2.2.2.2.1
def mb : Str → Option Value := cc.2.2.2.2.2.2.1
def x : Addr := cc.2.2.2.2.2.2.2.1
def k : Nat := cc.2.2.2.2.2.2.2.2.1
def t : Tok := cc.2.2.2.2.2.2.2.2.2.1
def Q : Value → Shared → Prop := cc.2.2.2.2.2.2.2.2.2.2.1
def E : Value → Shared → Prop := cc.2.2.2.2.2.2.2.2.2.2.2.1
def dp : Nat := cc.2.2.2.2.2.2.2.2.2.2.2.2.1
def fr : Option (List Env) := cc.2.2.2.2.2.2.2.2.2.2.2.2.2.1
def gd : Option (List Code) := cc.2.2.2.2.2.2.2.2.2.2.2.2.2.2.1
def un : Nat := cc.2.2.2.2.2.2.2.2.2.2.2.2.2.2.2
def L' : Addr := s.heap.objs.size
theorem core (X : (hd.heap_1 w.params).In B) (T : TopH mean mg mb B) (U : B.StaysIn s.heap) (hd1 : (⟨none, dp, fr, gd, un⟩ : Around).depth + 20 < recursionLimit) (hu : (⟨none, dp, fr, gd, un⟩ : Around).units + 200 < cLine) (ht : TreeAt w s.heap (.ref x) d) (hsz : d.size ≤ 9000) (hk : k < d.leaves.length) (hQ : ∀ r h' tk' p, Kp [] s.heap h' → d.paths[k]? = some p → PathAt (newer s.heap h') r p → Q r { s with heap := h', toks := tk' }) : wpAny (model prog w) (⟨none, dp, fr, gd, un⟩ : Around) (call (.ref 135) [.ref x, .int k t]) Q E s := by
    replace hd1 : dp + 20 < recursionLimit := hd1
    replace hu : un + 200 < cLine := hu
    refine wpAny_call ?_
    k_dflt (refine' enter2 (L₀ := L') (binds := [(Str.ofString "self", .ref x), (Str.ofString "index", .int k t)]) [] X T U ?hW ?k6 ?k7 ?k8 ?k9 ?kB ?_ ?c2 ?c3 ?c4 ?c5; (case k6 => k_is); (case k7 => k_is); (case k8 => (show dp < recursionLimit; omega)); (case k9 => first | exact BindsTo.of_eq rfl | exact binds_K (X.keeps U) rfl (by k_is) rfl rfl rfl); (case c5 => decide); (case kB => exact locs rfl); (case c2 => exact rfl); (case c3 => exact rfl); (case c4 => exact rfl))
    · exact fun _ h => nomatch h
    · intro g h₁ hg st F N X' T' up
      obtain rfl : g = s.heap := hg
      (try dsimp only)
      k_fold
      k_steps
      rename Fr _ _ _ _ => F1
      rename News _ _ _ _ => N1
      rename _ ∧ _ => l1
      have nl := N1 _ (.head _)
      have nD := N1 _ (.tail _ (.head _))
      have n0 := N1 _ (.tail _ (.tail _ (.head _)))
      have sL0 : s.heap.get? L' = none := by
        cases q : s.heap.get? L' with
        | none => rfl
        | some o => exact absurd (Heap.lt_size q) (Nat.not_lt.mpr F1.above)
      obtain ⟨S0, N4, u1, u2, o1, o2, o3, o4⟩ := refreeze (S := s.heap) [_] F1 N1 (fun p hp => by rw [List.mem_singleton.mp hp]; exact .head _) (by rw [frz_self]; exact fun _ q => nomatch q) (stays_refl _) sL0 (fun p hp => by rw [List.mem_singleton.mp hp]; exact nl.2.2)
      have hS0 : Stk w s.heap (newer s.heap S0) [_] [(d, [])] := .cons ⟨_, _, _, rfl, newer_iff.mpr ⟨nD.2.2, o3 _ _ nD.1 nD.2.1 (fun p hp q => by rw [List.mem_singleton.mp hp] at q; exact absurd q (Nat.ne_of_gt l1.1))⟩, ht,
        ⟨_, [], rfl, newer_iff.mpr ⟨n0.2.2, o3 _ _ n0.1 n0.2.1 (fun p hp q => by rw [List.mem_singleton.mp hp] at q; exact absurd q (Nat.ne_of_gt l1.2))⟩, .nil⟩, by simp only [List.length_nil]; omega⟩ .nil
      have oL0 := o2 _ (.head _)
      k_dflt refine' (Stop.mk (whileK F1 N4 (fun n m cs => ∃ (stk : List Value) (todo : List (D × List Nat)) (sl : Addr) (kk j : Nat) (S : Heap), m (Str.ofString "stack") = some (Value.ref sl) ∧ (∃ tj, m (Str.ofString "index") = some (Value.int (j : Int) tj)) ∧
        cs = (sl, W.listOf stk.reverse.toArray kk) :: frz s.heap S ∧ s.heap.StaysIn S ∧ S.get? L' = none ∧ S.get? sl = none ∧ Stk w s.heap (newer s.heap S) stk todo ∧ j < (rem todo).length ∧ (rem todo)[j]? = d.paths[k]? ∧ sizeS todo ≤ 10000 ∧ n = sizeS todo) d.size ?_ ?_))
      · have e1 : rem [(d, [])] = d.paths := by simp [rem]
        exact ⟨[_], [(d, [])], _, 0, k, S0, rfl, ⟨t, rfl⟩, rfl, u1, o1, oL0, hS0, by rw [e1, paths_length]; exact hk, by rw [e1], by simp only [sizeS]; omega, by simp only [sizeS]; omega⟩
      · clear F1 N1 N4 hS0
        rintro n m cs h tk ⟨stk, todo, sl, kk, j, S, m1, ⟨tj, m2⟩, rfl, uS, sL, sS, hS, hj, hj2, hle, rfl⟩ F2 N2
        rw [over2 m1 m2] at F2
        cases hS with
        | nil => simp [rem] at hj
        | cons he hS =>
          rename_i v e stk todo
          obtain ⟨e, pth⟩ := e
          obtain ⟨a, u, q, rfl, ha, hu1, ⟨b, xs, rfl, hb, hx⟩, hln⟩ := he
          dsimp only at hu1 hx hln
          rw [List.reverse_cons] at N2
          have hlen : (stk.reverse ++ [Value.ref a]).length ≤ 1000000 := by
            have h1 := hS.length; have h2 := len_le_sizeS todo; simp only [sizeS] at hle; simp; omega
          have N3 : News s.heap L' h ((sl, W.listOf (stk.reverse ++ [Value.ref a]).toArray kk) :: (a, tupO #[u, Value.ref b]) :: (b, tupO xs.toArray) :: frz s.heap S) := fun p hp => by
            rcases List.mem_cons.mp hp with rfl | hp
            · exact N2 _ (.head _)
            · rcases List.mem_cons.mp hp with rfl | hp
              · exact N2 _ (.tail _ (mem_frz.mpr (newer_iff.mp ha)))
              · rcases List.mem_cons.mp hp with rfl | hp
                · exact N2 _ (.tail _ (mem_frz.mpr (newer_iff.mp hb)))
                · exact N2 _ (.tail _ hp)
          replace F2 : Fr s.heap L' h _ := F2
          clear N2
          have nsa := neN (fun q : sl = a => by subst q; rw [newer_sub _ _ _ _ ha] at sS; cases sS)
          have nsb := neN (fun q : sl = b => by subst q; rw [newer_sub _ _ _ _ hb] at sS; cases sS)
          cases hu1 with
          | leaf =>
            rw [rem] at hj2
            (with_reducible show wpAny _ _ _ _ _ _); k_fold
            k_steps
            · rename Fr _ _ _ _ => F3
              rename News _ _ _ _ => N3
              rename (j : Int) = 0 => j0
              obtain rfl : j = 0 := by omega
              have nb := N3 _ (.tail _ (.tail _ (.head _)))
              refine hQ _ _ _ pth (.of_stays F3.keep) ?_ ⟨b, xs, rfl, newer_iff.mpr ⟨nb.2.2, nb.1⟩, hx⟩
              rw [← hj2]
              simp [D.paths]
            · rename Fr _ _ _ _ => F3
              rename News _ _ _ _ => N3
              rename ¬ ((j : Int) = 0) => j0
              obtain ⟨j, rfl⟩ : ∃ i, j = i + 1 := ⟨j - 1, by omega⟩
              refine Stop.mk ⟨sizeS todo, _, _, _, (sl, W.listOf stk.reverse.toArray (kk + 1)) :: frz s.heap S, by simp only [sizeS, D.size]; omega, rfl, F3, News.sub N3 (fun p hp => ?_), stk, todo, sl, kk + 1, j, S, rfl, ⟨_, congrArg (fun z => some (Value.int z _)) (show (((j + 1 : Nat) : Int) - 1) = (j : Int) by omega)⟩, rfl, uS, sL, sS, hS, ?_, ?_, ?_, rfl⟩
              · rcases List.mem_cons.mp hp with rfl | hp
                · exact .head _
                · exact .tail _ (.tail _ (.tail _ hp))
              · simpa [rem, D.paths] using hj
              · rw [← hj2]; simp [D.paths]
              · simp only [sizeS, D.size] at hle ⊢; omega
          | node hxx hdd hcc hlen' hch =>
            rename_i x' dx c lab t1 t2 t3 kc items ds
            (with_reducible show wpAny _ _ _ _ _ _); k_fold
            k_steps
            refine Stop.mk (wpAny_For ?_)
            k_steps
            rename Fr _ _ _ _ => F3
            rename News _ _ _ _ => N3
            have hl2 := len_le_sizeL ds
            simp only [D.size] at hln
            k_dflt refine' (Stop.mk (len_ok X' T' F3.keep (show dp + 1 + 10 < recursionLimit by omega) (show un + 3 + 1 + 80 < cLine by omega) rfl (F3.keep _ _ hxx) (F3.keep _ _ hdd) (F3.keep _ _ hcc) (by omega) ?_))
            intro tn h5 tk5 kp5
            obtain ⟨F5, N5⟩ := pure_call F3 N3 kp5
            clear F3 N3
            (try dsimp only [LenBack])
            (try refine ⟨⟨by omega, by omega⟩, ?_⟩)
            (try dsimp only)
            k_steps
            rename Fr _ _ _ _ => F6
            rename News _ _ _ _ => N6
            rename IsRange _ _ _ _ _ _ _ _ => hR
            have nb := N6 _ (.tail _ (.tail _ (.head _)))
            have hrs : Builtin.Range.rangeSize ((items.length : Int) - 1) (-1) (-1) = (items.length : Int) := by rw [rangeSize_downNat]; omega
            have hsm : Builtin.Range.small ((items.length : Int) - 1) (-1) (-1) = true := small_down (by omega) (by omega) (by omega) (by omega)
            have N7 := News.sub (news' := (sl, W.listOf stk.reverse.toArray (kk + 1)) :: frz s.heap S) N6 (fun p hp => by
              rcases List.mem_cons.mp hp with rfl | hp
              · exact .head _
              · exact .tail _ (.tail _ (.tail _ hp)))
            clear N6
            k_dflt refine' (Stop.mk (forRange F6 N7 rfl hR hsm hrs rfl rfl
              (fun i m cs => ∃ (stk' : List Value) (kk' : Nat) (S' : Heap), m (Str.ofString "stack") = some (Value.ref sl) ∧ m (Str.ofString "value") = some (Value.ref x') ∧ m (Str.ofString "treepos") = some (Value.ref b) ∧ (∃ tj, m (Str.ofString "index") = some (Value.int (j : Int) tj)) ∧
                cs = (sl, W.listOf stk'.reverse.toArray kk') :: frz s.heap S' ∧ s.heap.StaysIn S' ∧ S'.get? L' = none ∧ S'.get? sl = none ∧ S.StaysIn S' ∧ Stk w s.heap (newer s.heap S') stk' ((childs pth 0 ds).drop (items.length - i) ++ todo))
              ⟨stk, kk + 1, S, rfl, rfl, rfl, ⟨tj, rfl⟩, rfl, uS, sL, sS, stays_refl _, ?_⟩ ?_ ?_))
            · rw [List.drop_eq_nil_of_le (by rw [childs_length]; omega)]; exact hS
            · rintro i ti m' cs h7 tk7 I oI hi ⟨stk', kk', S', m1', m2', m3', ⟨tj', m4'⟩, rfl, uS', sL', sS', uSS, hS'⟩ hcI F8 N8
              rw [over4 m1' m2' m3' m4', show ((items.length:Int) - 1) + (i:Int) * (-1) = ((items.length - 1 - i : Nat) : Int) by omega] at F8
              clear F6 N7
              obtain ⟨vq, hvq⟩ : ∃ v, items[items.length - 1 - i]? = some v := ⟨items[items.length - 1 - i]'(by omega), List.getElem?_eq_getElem (by omega)⟩
              obtain ⟨dq, hdq⟩ : ∃ v, ds[items.length - 1 - i]? = some v := ⟨ds[items.length - 1 - i]'(by omega), List.getElem?_eq_getElem (by omega)⟩
              have htq := hch _ vq dq hvq hdq
              have hb' := newer_up (stays_refl s.heap) uSS _ _ hb
              have N9 : News s.heap L' h7 ((I, oI) :: (sl, W.listOf stk'.reverse.toArray kk') :: (b, tupO xs.toArray) :: frz s.heap S') := fun p hp => by
                rcases List.mem_cons.mp hp with rfl | hp
                · exact N8 _ (.head _)
                · rcases List.mem_cons.mp hp with rfl | hp
                  · exact N8 _ (.tail _ (.head _))
                  · rcases List.mem_cons.mp hp with rfl | hp
                    · exact N8 _ (.tail _ (.tail _ (mem_frz.mpr (newer_iff.mp hb'))))
                    · exact N8 _ (.tail _ (.tail _ hp))
              have nsI := neN (hcI _ (.head _))
              clear N8
              replace F8 : Fr s.heap L' h7 _ := F8
              dsimp only at nsI
              have hlen2 : stk'.reverse.length ≤ 99999 := by
                have h1 := hS'.length; have h2 := len_le_sizeS todo; simp only [sizeS] at hle; rw [List.length_append, List.length_drop, childs_length] at h1; rw [List.length_reverse]; omega
              (with_reducible show wpAny _ _ _ _ _ _); k_fold
              k_steps
              k_dflt refine' (Stop.mk (getint_ok X' T' F8.keep (show dp + 1 + 10 < recursionLimit by omega) (show un + 3 + 1 + 80 < cLine by omega) rfl (F8.keep _ _ hxx) (F8.keep _ _ hdd) (F8.keep _ _ hcc) hvq (by omega) ?_))
              intro h10 tk10 kp10
              obtain ⟨F10, N10⟩ := pure_call F8 N9 kp10
              clear F8 N9
              (try dsimp only)
              k_steps
              rename Fr _ _ _ _ => F11
              rename News _ _ _ _ => N11
              rename _ ∧ _ => l11
              have hxl := hx.length
              rw [numsP, List.length_map] at hxl
              k_dflt refine' (Stop.mk (add_path F11 N11 (.tail _ (.tail _ (.tail _ (.head _)))) (.head _) hx (.cons _ _ .nil) (List.cons_ne_nil _ _) (by simp only [List.length_cons, List.length_nil]; omega) ?_))
              intro r h12 ys F12 N12 hys hr
              clear F11 N11
              have nsr := neN (show sl ≠ r from by
                rcases hr with q | hr
                · rw [q]; exact Nat.ne_of_lt l11.2.1
                · exact hr (sl, _) (.tail _ (.tail _ (.head _))))
              have nIr := neN (show I ≠ r from by
                rcases hr with q | hr
                · rw [q]; exact Nat.ne_of_lt l11.1
                · exact hr (I, _) (.tail _ (.head _)))
              k_steps
              rename Fr _ _ _ _ => F13
              rename News _ _ _ _ => N13
              rename _ < _ ∧ _ => l13
              have nD := N13 _ (.head _)
              have nr := N13 _ (.tail _ (.head _))
              have nI := N13 _ (.tail _ (.tail _ (.tail _ (.head _))))
              have sI : S'.get? I = none := by
                cases q : S'.get? I with
                | none => rfl
                | some o => exact absurd rfl (hcI (I, o) (.tail _ (mem_frz.mpr ⟨nI.2.2, q⟩)))
              rw [List.push_toArray, ← List.reverse_cons] at N13
              obtain ⟨S'', N14, v1, v2, o1, o2, o3, o4⟩ := refreeze [(I, oI), (sl, _)] F13 N13 (fun p hp => by
                  rcases List.mem_cons.mp hp with rfl | hp
                  · exact .tail _ (.tail _ (.tail _ (.head _)))
                  · rw [List.mem_singleton.mp hp]; exact .tail _ (.tail _ (.tail _ (.tail _ (.head _)))))
                (fun p hp => .tail _ (.tail _ (.tail _ (.tail _ (.tail _ (.tail _ hp)))))) uS' sL' (fun p hp => by
                  rcases List.mem_cons.mp hp with rfl | hp
                  · exact sI
                  · rw [List.mem_singleton.mp hp]; exact sS')
              have oI'' := o2 (I, oI) (.head _)
              have oS'' := o2 _ (.tail _ (.head _))
              refine Stop.mk ⟨_, _, _, (sl, _) :: frz s.heap S'', rfl, F13, N14, fun p hp => ?_, _ :: stk', _, S'', rfl, rfl, rfl, ⟨tj', rfl⟩, rfl, v1, o1, oS'', stays_trans uSS v2, ?_⟩
              · rcases List.mem_cons.mp hp with rfl | hp
                · exact nsI
                · exact frz_off oI'' p hp
              · have e5 : (childs pth 0 ds).drop (items.length - (i + 1)) = (dq, pth ++ [items.length - 1 - i]) :: (childs pth 0 ds).drop (items.length - i) := by
                  have e6 := childs_get pth 0 ds _ _ hdq
                  have e7 := (List.getElem?_eq_some_iff.mp e6).1
                  rw [show items.length - (i + 1) = items.length - 1 - i by omega, List.drop_eq_getElem_cons e7, (List.getElem?_eq_some_iff.mp e6).2, show items.length - 1 - i + 1 = items.length - i by omega, Nat.zero_add]
                rw [e5]
                refine .cons ⟨_, _, _, rfl, newer_iff.mpr ⟨nD.2.2, o3 _ _ nD.1 nD.2.1 fun p hp q => ?_⟩, htq, ⟨r, ys, rfl, newer_iff.mpr ⟨nr.2.2, o3 _ _ nr.1 nr.2.1 fun p hp q => ?_⟩, ?_⟩, ?_⟩ (hS'.up (newer_up (stays_refl _) v2))
                · rcases List.mem_cons.mp hp with rfl | hp
                  · exact absurd q (Nat.ne_of_lt l13.2.2.1)
                  · rw [List.mem_singleton.mp hp] at q; exact absurd q (Nat.ne_of_lt l13.2.2.2.1)
                · rcases List.mem_cons.mp hp with rfl | hp
                  · exact absurd q nIr
                  · rw [List.mem_singleton.mp hp] at q; exact absurd q nsr
                · simpa [numsP] using hys
                · have := size_lt (List.mem_of_getElem? hdq)
                  rw [List.length_append]; simp only [List.length_cons, List.length_nil]; omega
            · rintro m' cs h7 tk7 ⟨stk', kk', S', m1', m2', m3', ⟨tj', m4'⟩, rfl, uS', sL', sS', uSS, hS'⟩ F8 N8
              rw [Nat.sub_self, List.drop_zero] at hS'
              have e8 : rem (childs pth 0 ds ++ todo) = rem ((.node lab ds, pth) :: todo) := by rw [rem_append, rem_childs, rem, D.paths]
              (try dsimp only)
              k_steps
              refine Stop.mk ⟨sizeS (childs pth 0 ds ++ todo), _, _, _, _, ?_, rfl, F8, N8, stk', childs pth 0 ds ++ todo, sl, kk', j, S', m1', ⟨tj', m4'⟩, rfl, uS', sL', sS', hS', ?_, ?_, ?_, rfl⟩
              · rw [sizeS_append, sizeS_childs]; simp only [sizeS, D.size]; omega
              · rw [e8]; exact hj
              · rw [e8]; exact hj2
              · rw [sizeS_append, sizeS_childs]; simp only [sizeS, D.size] at hle; omega
end
end CPTfltpok
theorem ltp_ok {w : World} (d : D) {A : Around} {s : Shared} {B : Heap} {mean : ExcName → Option Value} {mg mb : Str → Option Value} {x : Addr} {k : Nat} {t : Tok} {Q E : Value → Shared → Prop}
    (X : (hd.heap_1 w.params).In B) (T : TopH mean mg mb B) (U : B.StaysIn s.heap) (hd1 : A.depth + 20 < recursionLimit) (hu : A.units + 200 < cLine) (hh : A.handled = none) (ht : TreeAt w s.heap (.ref x) d) (hsz : d.size ≤ 9000) (hk : k < d.leaves.length)
    (hQ : ∀ r h' tk' p, Kp [] s.heap h' → d.paths[k]? = some p → PathAt (newer s.heap h') r p → Q r { s with heap := h', toks := tk' }) :
    wpAny (model prog w) A (call (.ref 135) [.ref x, .int k t]) Q E s := by
  obtain ⟨hnd, dp, fr, gd, un⟩ := A
  obtain rfl : hnd = none := hh
  have h : ∀ t, CPTfltpok.Pp t := epsAll (nePair neWorld (nePair neD (nePair neShared (nePair (⟨default⟩ : Nonempty (Heap)) (nePair (⟨default⟩ : Nonempty (ExcName → Option Value)) (nePair (⟨default⟩ : Nonempty (Str → Option Value)) (nePair (⟨default⟩ : Nonempty (Str → Option Value)) (nePair (⟨default⟩ : Nonempty (Addr)) (nePair (⟨default⟩ : Nonempty (Nat)) (nePair (⟨default⟩ : Nonempty (Tok)) (nePair (⟨default⟩ : Nonempty (Value → Shared → Prop)) (nePair (⟨default⟩ : Nonempty (Value → Shared → Prop)) (nePair (⟨default⟩ : Nonempty (Nat)) (nePair (⟨default⟩ : Nonempty (Option (List Env))) (nePair (⟨default⟩ : Nonempty (Option (List Code))) (⟨default⟩ : Nonempty (Nat))))))))))))))))) CPTfltpok.Pp CPTfltpok.core
  exact h ⟨w, d, s, B, mean, mg, mb, x, k, t, Q, E, dp, fr, gd, un⟩ X T U hd1 hu ht hsz hk hQ
section
local macro_rules | `(tactic| walk_at "subscriptTail") => `(tactic| (k_here; (with_reducible show wpAny _ _ (subscriptTail _ _ (Value.ref _) (Value.int _ _)) _ _ _); (with_unfolding_all refine' itemT_H ?k1 ?k2 ?k3 ?_ ?k4 ?k5; (case k1 => kun_tup); (case k2 => assumption); (case k3 => first | assumption | omega); (case k4 => with_unfolding_all rfl); (case k5 => (intro _; with_unfolding_all rfl)); k_whole)))
local macro_rules | `(tactic| walk_at "call builtin:len") => `(tactic| (k_here; (with_reducible show wpAny _ _ (call (Value.builtin "len") [Value.ref _]) _ _ _); (with_unfolding_all refine' lenT_H ?k1 ?k2 ?_; (case k1 => kun_tup); (case k2 => first | assumption | omega); k_whole)))
local macro_rules | `(tactic| walk_at "subscriptTail Name Slice ref ref") => `(tactic| (k_here; (with_reducible show wpAny _ _ (subscriptTail _ (PySem.Expr.Slice none (some _) none _) (Value.ref _) (Value.ref _)) _ _ _); k_dflt (refine' slice_to ?F ?N ?m ?a ?z ?_ ?s ?t; (case F => k_asm); (case N => k_asm); (case m => k_mem); (case a => first | omega | assumption); (case z => first | assumption | omega); (case s => with_unfolding_all rfl); (case t => (intro _; with_unfolding_all rfl)); k_whole); intro _ _ F' N'))
namespace CSPgspanok
noncomputable section
abbrev Tup : Type := (World) × (D) × (Shared) × (Heap) × (ExcName → Option Value) × (Str → Option Value) × (Str → Option Value) × (Addr) × (Nat) × (Nat) × (Tok) × (Tok) × (Value → Shared → Prop) × (Value → Shared → Prop) × (List Nat) × (List Nat) × (Nat) × (Option (List Env)) × (Option (List Code)) × (Nat)
def Pp : Tup → Prop := fun tt9 => (fun (w : World) (d : D) (s : Shared) (B : Heap) (mean : ExcName → Option Value) (mg : Str → Option Value) (mb : Str → Option Value) (x : Addr) (i : Nat) (j : Nat) (ti : Tok) (tj : Tok) (Q : Value → Shared → Prop) (E : Value → Shared → Prop) (p : List Nat) (q : List Nat) (dp : Nat) (fr : Option (List Env)) (gd : Option (List Code)) (un : Nat) => ∀ (X : (hd.heap_1 w.params).In B) (T : TopH mean mg mb B) (U : B.StaysIn s.heap) (hd1 : (⟨none, dp, fr, gd, un⟩ : Around).depth + 30 < recursionLimit) (hu : (⟨none, dp, fr, gd, un⟩ : Around).units + 300 < cLine) (ht : TreeAt w s.heap (.ref x) d) (hsz : d.size ≤ 9000) (hp : d.paths[i]? = some p) (hq : d.paths[j]? = some q) (hQ : ∀ r h' tk', Kp [] s.heap h' → PathAt (newer s.heap h') r (lcp p q) → Q r { s with heap := h', toks := tk' }) (hij : i ≤ j), wpAny (model prog w) (⟨none, dp, fr, gd, un⟩ : Around) (call (.ref 142) [.ref x, .int (i : Int) ti, .int ((j + 1 : Nat) : Int) tj]) Q E s) tt9.1 tt9.2.1 tt9.2.2.1 tt9.2.2.2.1 tt9.2.2.2.2.1 tt9.2.2.2.2.2.1 tt9.2.2.2.2.2.2.1 tt9.2.2.2.2.2.2.2.1 tt9.2.2.2.2.2.2.2.2.1 tt9.2.2.2.2.2.2.2.2.2.1 tt9.2.2.2.2.2.2.2.2.2.2.1 tt9.2.2.2.2.2.2.2.2.2.2.2.1 tt9.2.2.2.2.2.2.2.2.2.2.2.2.1 tt9.2.2.2.2.2.2.2.2.2.2.2.2.2.1 tt9.2.2.2.2.2.2.2.2.2.2.2.2.2.2.1 tt9.2.2.2.2.2.2.2.2.2.2.2.2.2.2.2.1 tt9.2.2.2.2.2.2.2.2.2.2.2.2.2.2.2.2.1 tt9.2.2.2.2.2.2.2.2.2.2.2.2.2.2.2.2.2.1 tt9.2.2.2.2.2.2.2.2.2.2.2.2.2.2.2.2.2.2.1 tt9.2.2.2.2.2.2.2.2.2.2.2.2.2.2.2.2.2.2.2
def cc : Tup := @Classical.epsilon Tup (nePair neWorld (nePair neD (nePair neShared (nePair (⟨default⟩ : Nonempty (Heap)) (nePair (⟨default⟩ : Nonempty (ExcName → Option Value)) (nePair (⟨default⟩ : Nonempty (Str → Option Value)) (nePair (⟨default⟩ : Nonempty (Str → Option Value)) (nePair (⟨default⟩ : Nonempty (Addr)) (nePair (⟨default⟩ : Nonempty (Nat)) (nePair (⟨default⟩ : Nonempty (Nat)) (nePair (⟨default⟩ : Nonempty (Tok)) (nePair (⟨default⟩ : Nonempty (Tok)) (nePair (⟨default⟩ : Nonempty (Value → Shared → Prop)) (nePair (⟨default⟩ : Nonempty (Value → Shared → Prop)) (nePair (⟨default⟩ : Nonempty (List Nat)) (nePair (⟨default⟩ : Nonempty (List Nat)) (nePair (⟨default⟩ : Nonempty (Nat)) (nePair (⟨default⟩ : Nonempty (Option (List Env))) (nePair (⟨default⟩ : Nonempty (Option (List Code))) (⟨default⟩ : Nonempty (Nat))))))))))))))))))))) fun t => ¬ Pp t
def w : World := cc.1
def d : D := cc.2.1
def s : Shared := cc.2.2.1
def B : Heap := cc.2.2.2.1
def mean : ExcName → Option Value := cc.2.2.2.2.1
def mg : Str → Option Value := cc.2.2.2.2.2.1
def mb : Str → Option Value := cc.2.2.2.2.2.2.1
def x : Addr := cc.2.2.2.2.2.2.2.1
def i : Nat := cc.2.2.2.2.2.2.2.2.1
def j : Nat := cc.2.2.2.2.2.2.2.2.2.1
def ti : Tok := cc.2.2.2.2.2.2.2.2.2.2.1
def tj : Tok := cc.2.2.2.2.2.2.2.2.2.2.2.1
def Q : Value → Shared → Prop := cc.2.2.2.2.2.2.2.2.2.2.2.2.1
def E : Value → Shared → Prop := cc.2.2.2.2.2.2.2.2.2.2.2.2.2.1
def p : List Nat := cc.2.2.2.2.2.2.2.2.2.2.2.2.2.2.1
def q : List Nat := cc.2.2.2.2.2.2.2.2.2.2.2.2.2.2.2.1
def dp : Nat := cc.2.2.2.2.2.2.2.2.2.2.2.2.2.2.2.2.1
def fr : Option (List Env) := cc.2.2.2.2.2.2.2.2.2.2.2.2.2.2.2.2.2.1
def gd : Option (List Code) := cc.2.2.2.2.2.2.2.2.2.2.2.2.2.2.2.2.2.2.1
def un : Nat := cc.2.2.2.2.2.2.2.2.2.2.2.2.2.2.2.2.2.2.2
def L' : Addr := s.heap.objs.size
theorem core (X : (hd.heap_1 w.params).In B) (T : TopH mean mg mb B) (U : B.StaysIn s.heap) (hd1 : (⟨none, dp, fr, gd, un⟩ : Around).depth + 30 < recursionLimit) (hu : (⟨none, dp, fr, gd, un⟩ : Around).units + 300 < cLine) (ht : TreeAt w s.heap (.ref x) d) (hsz : d.size ≤ 9000) (hp : d.paths[i]? = some p) (hq : d.paths[j]? = some q) (hQ : ∀ r h' tk', Kp [] s.heap h' → PathAt (newer s.heap h') r (lcp p q) → Q r { s with heap := h', toks := tk' }) (hij : i ≤ j) : wpAny (model prog w) (⟨none, dp, fr, gd, un⟩ : Around) (call (.ref 142) [.ref x, .int (i : Int) ti, .int ((j + 1 : Nat) : Int) tj]) Q E s := by
    replace hd1 : dp + 30 < recursionLimit := hd1
    replace hu : un + 300 < cLine := hu
    refine wpAny_call ?_
    k_dflt (refine' enter2 (L₀ := L') (binds := [(Str.ofString "self", .ref x), (Str.ofString "start", .int (i : Int) ti), (Str.ofString "end", .int ((j + 1 : Nat) : Int) tj)]) [] X T U ?hW ?k6 ?k7 ?k8 ?k9 ?kB ?_ ?c2 ?c3 ?c4 ?c5; (case k6 => k_is); (case k7 => k_is); (case k8 => (show dp < recursionLimit; omega)); (case k9 => first | exact BindsTo.of_eq rfl | exact binds_K (X.keeps U) rfl (by k_is) rfl rfl rfl); (case c5 => decide); (case kB => exact locs rfl); (case c2 => exact rfl); (case c3 => exact rfl); (case c4 => exact rfl))
    · exact fun _ h => nomatch h
    · intro g h₁ hg st F N X' T' up
      obtain rfl : g = s.heap := hg
      (try dsimp only)
      k_fold
      have hx := ht.ex
      obtain ⟨dx, c, lab, t1, t2, t3, hx1, hx2⟩ := hx
      k_steps
      rename Fr _ _ _ _ => F1
      rename News _ _ _ _ => N1
      have lp : i < d.leaves.length := by rw [← paths_length]; exact (List.getElem?_eq_some_iff.mp hp).1
      have lq : j < d.leaves.length := by rw [← paths_length]; exact (List.getElem?_eq_some_iff.mp hq).1
      k_dflt refine' (Stop.mk (ltp_ok d X' T' F1.keep (show dp + 1 + 20 < recursionLimit by omega) (show un + 3 + 200 < cLine by omega) rfl (ht.up F1.keep) hsz lp ?_))
      intro r1 h2 tk2 p' kp2 hp' hP
      rw [hp] at hp'
      cases hp'
      obtain ⟨a, xs, rfl, ha, hxs⟩ := hP
      obtain ⟨ha0, ha1⟩ := newer_iff.mp ha
      obtain ⟨F2, N2, _⟩ := fresh_call F1 N1 kp2 ha0 ha1
      clear F1 N1
      (try dsimp only)
      k_steps
      rename Fr _ _ _ _ => F1
      rename News _ _ _ _ => N1
      rw [show (((j + 1 : Nat) : Int) - 1) = (j : Int) by omega]
      k_dflt refine' (Stop.mk (ltp_ok d X' T' F1.keep (show dp + 1 + 20 < recursionLimit by omega) (show un + 3 + 200 < cLine by omega) rfl (ht.up F1.keep) hsz lq ?_))
      intro r1 h3 tk3 p' kp3 hp' hP
      rw [hq] at hp'
      cases hp'
      obtain ⟨b, ys, rfl, hb, hys⟩ := hP
      obtain ⟨hb0, hb1⟩ := newer_iff.mp hb
      obtain ⟨F3, N3, _⟩ := fresh_call F1 N1 kp3 hb0 hb1
      have hlx : xs.length ≤ 100000 := by rw [numsP_length hxs]; have := paths_ht d p (List.mem_of_getElem? hp); have := ht_le_size d; omega
      have hly : ys.length ≤ 100000 := by rw [numsP_length hys]; have := paths_ht d q (List.mem_of_getElem? hq); have := ht_le_size d; omega
      clear F1 N1
      (try dsimp only)
      k_steps
      refine Stop.mk (wpAny_For ?_)
      k_steps
      rename Fr _ _ _ _ => F4
      rename News _ _ _ _ => N4
      rename IsRange _ _ _ _ _ _ _ _ => hR
      have hrs : Builtin.Range.rangeSize 0 (xs.length : Int) 1 = (xs.length : Int) := by rw [rangeSize_one]; split <;> omega
      have hsm : Builtin.Range.small 0 (xs.length : Int) 1 = true := small_one (by omega) (by omega) (by omega) (by omega)
      have lx := numsP_length hxs
      have ly := numsP_length hys
      k_dflt refine' (Stop.mk (forRange F4 N4 rfl hR hsm hrs rfl rfl
        (fun i m cs => m (Str.ofString "start_treepos") = some (Value.ref a) ∧ m (Str.ofString "end_treepos") = some (Value.ref b) ∧ cs = [(b, tupO ys.toArray), (a, tupO xs.toArray)] ∧ p.take i = q.take i ∧ i ≤ q.length)
        ⟨rfl, rfl, rfl, rfl, Nat.zero_le _⟩ ?_ ?_))
      · rintro k t' m cs h7 tk7 I oI hk ⟨m1, m2, rfl, he, hkq⟩ hcI F8 N8
        rw [over2 m1 m2, show (0 : Int) + (k : Int) * 1 = (k : Int) by omega] at F8
        clear F4 N4
        replace F8 : Fr s.heap L' h7 _ := F8
        obtain ⟨pk, hpk⟩ : ∃ v, p[k]? = some v := ⟨p[k]'(by omega), List.getElem?_eq_getElem (by omega)⟩
        obtain ⟨tp, hxk⟩ := numsP_get hxs hpk
        have fin : ∀ r h' xs' tk', Fr s.heap L' h' xs' → News s.heap L' h' ((r, tupO (xs.take k).toArray) :: (I, oI) :: [(b, tupO ys.toArray), (a, tupO xs.toArray)]) → (k = q.length ∨ ∃ qk, q[k]? = some qk ∧ pk ≠ qk) → Q (.ref r) { s with heap := h', toks := tk' } := by
          intro r h' xs' tk' Fx Nx hc
          have nr := Nx _ (.head _)
          have e1 : lcp p q = p.take k := lcp_stop k he (by omega) hkq (fun a b e1 e2 e3 => by
            rw [hpk] at e1; cases e1
            rcases hc with hc | ⟨qk, hc, hne⟩
            · rw [List.getElem?_eq_none (by omega)] at e2; cases e2
            · rw [hc] at e2; cases e2; exact hne e3) (.inr (.inr trivial))
          exact hQ _ _ _ (.of_stays Fx.keep) ⟨r, _, rfl, newer_iff.mpr ⟨nr.2.2, nr.1⟩, e1 ▸ numsP_take hxs k⟩
        by_cases hkl : k = ys.length
        · have hkl' : (k : Int) = (ys.length : Int) := by omega
          (with_reducible show wpAny _ _ _ _ _ _); k_fold
          k_steps
          · rename Fr _ _ _ _ => F9
            rename News _ _ _ _ => N9
            exact fin _ _ _ _ F9 N9 (.inl (by omega))
          all_goals (exfalso; omega)
        · obtain ⟨qk, hqk⟩ : ∃ v, q[k]? = some v := ⟨q[k]'(by omega), List.getElem?_eq_getElem (by omega)⟩
          obtain ⟨tq, hyk⟩ := numsP_get hys hqk
          have hkl' : (k : Int) ≠ (ys.length : Int) := by omega
          k_steps
          · exfalso; omega
          · rename Fr _ _ _ _ => F9
            rename News _ _ _ _ => N9
            exact fin _ _ _ _ F9 N9 (.inr ⟨qk, hqk, by omega⟩)
          · rename Fr _ _ _ _ => F9
            rename News _ _ _ _ => N9
            have hpq : pk = qk := by omega
            exact Stop.mk ⟨_, _, _, _, rfl, F9, N9, hcI, rfl, rfl, rfl, by rw [take_snoc hpk, take_snoc hqk, he, hpq], by omega⟩
      · rintro m cs h7 tk7 ⟨m1, m2, rfl, he, hkq⟩ F8 N8
        rw [over2 m1 m2] at F8
        clear F4 N4
        (try dsimp only)
        k_steps
        rename Fr _ _ _ _ => F9
        rename News _ _ _ _ => N9
        have na := N9 _ (.tail _ (.head _))
        rw [lx] at he hkq
        refine hQ _ _ _ (.of_stays F9.keep) ⟨a, xs, rfl, newer_iff.mpr ⟨na.2.2, na.1⟩, ?_⟩
        rw [lcp_all he hkq]
        exact hxs
end
end CSPgspanok
theorem span_ok {w : World} (d : D) {A : Around} {s : Shared} {B : Heap} {mean : ExcName → Option Value} {mg mb : Str → Option Value} {x : Addr} {i j : Nat} {ti tj : Tok} {Q E : Value → Shared → Prop} {p q : List Nat}
    (X : (hd.heap_1 w.params).In B) (T : TopH mean mg mb B) (U : B.StaysIn s.heap) (hd1 : A.depth + 30 < recursionLimit) (hu : A.units + 300 < cLine) (hh : A.handled = none) (ht : TreeAt w s.heap (.ref x) d) (hsz : d.size ≤ 9000)
    (hp : d.paths[i]? = some p) (hq : d.paths[j]? = some q) 
    (hQ : ∀ r h' tk', Kp [] s.heap h' → PathAt (newer s.heap h') r (lcp p q) → Q r { s with heap := h', toks := tk' }) (hij : i ≤ j) :
    wpAny (model prog w) A (call (.ref 142) [.ref x, .int (i : Int) ti, .int ((j + 1 : Nat) : Int) tj]) Q E s := by
  obtain ⟨hnd, dp, fr, gd, un⟩ := A
  obtain rfl : hnd = none := hh
  have h : ∀ t, CSPgspanok.Pp t := epsAll (nePair neWorld (nePair neD (nePair neShared (nePair (⟨default⟩ : Nonempty (Heap)) (nePair (⟨default⟩ : Nonempty (ExcName → Option Value)) (nePair (⟨default⟩ : Nonempty (Str → Option Value)) (nePair (⟨default⟩ : Nonempty (Str → Option Value)) (nePair (⟨default⟩ : Nonempty (Addr)) (nePair (⟨default⟩ : Nonempty (Nat)) (nePair (⟨default⟩ : Nonempty (Nat)) (nePair (⟨default⟩ : Nonempty (Tok)) (nePair (⟨default⟩ : Nonempty (Tok)) (nePair (⟨default⟩ : Nonempty (Value → Shared → Prop)) (nePair (⟨default⟩ : Nonempty (Value → Shared → Prop)) (nePair (⟨default⟩ : Nonempty (List Nat)) (nePair (⟨default⟩ : Nonempty (List Nat)) (nePair (⟨default⟩ : Nonempty (Nat)) (nePair (⟨default⟩ : Nonempty (Option (List Env))) (nePair (⟨default⟩ : Nonempty (Option (List Code))) (⟨default⟩ : Nonempty (Nat))))))))))))))))))))) CSPgspanok.Pp CSPgspanok.core
  exact h ⟨w, d, s, B, mean, mg, mb, x, i, j, ti, tj, Q, E, p, q, dp, fr, gd, un⟩ X T U hd1 hu ht hsz hp hq hQ hij
end
end
end
section
local macro_rules | `(tactic| walk_at "subscriptTail") => `(tactic| (k_here; (with_reducible show wpAny _ _ (subscriptTail _ (Expr.Name _ _) (Value.ref _) (Value.int _ _)) _ _ _); (k_dflt refine' item_H ?k1 ?k2 ?k3 ?_ ?k4 ?k5; (case k1 => is_list); (case k2 => assumption); (case k3 => first | assumption | omega); (case k4 => with_unfolding_all rfl); (case k5 => (intro _; with_unfolding_all rfl)); k_whole)))
local macro_rules | `(tactic| walk_at "call builtin:len") => `(tactic| (k_here; (with_reducible show wpAny _ _ (call (Value.builtin "len") [Value.ref _]) _ _ _); (k_dflt refine' len_H ?k1 ?k2 ?_; (case k1 => is_list); (case k2 => first | assumption | omega); k_whole)))
local macro_rules | `(tactic| walk_at "call builtin:list.pop") => `(tactic| (k_here; k_dflt (refine' pop_H ?F ?N ?U ?z ?_; (case F => k_asm); (case N => k_asm); (case U => k_upd); (case z => assumption)); intro h' F' N'))
section
local macro_rules | `(tactic| walk_at "subscriptTail") => `(tactic| (k_here; (with_reducible show wpAny _ _ (subscriptTail _ (Expr.Name _ _) (Value.ref _) (Value.int _ _)) _ _ _); (k_dflt refine' itemT_H ?k1 ?k2 ?k3 ?_ ?k4 ?k5; (case k1 => kun_tup); (case k2 => assumption); (case k3 => first | assumption | omega); (case k4 => with_unfolding_all rfl); (case k5 => (intro _; with_unfolding_all rfl)); k_whole)))
local macro_rules | `(tactic| walk_at "call builtin:len") => `(tactic| (k_here; (with_reducible show wpAny _ _ (call (Value.builtin "len") [Value.ref _]) _ _ _); (k_dflt refine' lenT_H ?k1 ?k2 ?_; (case k1 => kun_tup); (case k2 => first | assumption | omega); k_whole)))
local macro_rules | `(tactic| walk_at "subscriptTail Name Slice ref ref") => `(tactic| (k_here; (with_reducible show wpAny _ _ (subscriptTail _ (PySem.Expr.Slice none (some _) none _) (Value.ref _) (Value.ref _)) _ _ _); k_dflt (refine' slice_to ?F ?N ?m ?a ?z ?_ ?s ?t; (case F => k_asm); (case N => k_asm); (case m => k_mem); (case a => first | omega | assumption); (case z => first | assumption | omega); (case s => with_unfolding_all rfl); (case t => (intro _; with_unfolding_all rfl)); k_whole); intro _ _ F' N'))
section
local macro_rules | `(tactic| walk_at "subscriptTail") => `(tactic| (k_here; (with_reducible show wpAny _ _ (subscriptTail _ (Expr.UnaryOp _ _ _) (Value.ref _) (Value.int _ _)) _ _ _); (with_unfolding_all refine' itemL_H ?k1 ?k2 ?_ ?k4 ?k5; (case k1 => is_list)); ((case k2 => first | assumption | omega); (case k4 => with_unfolding_all rfl); (case k5 => (intro _; with_unfolding_all rfl)); k_whole)))
def eN : Nat → Nat
  | 0 => 1
  | n + 1 => 1 + (2 + 3 * eN n)
def zN : Nat → Nat
  | 0 => 1
  | n + 1 => 1 + 3 * zN n
theorem five {t0 t1 t2 t3 t4 : Tok} {q : Nat} (h : q < 5) : ∃ (c : Nat) (tc : Tok), c ≤ 3 ∧ [Value.int 2 t0, .int 1 t1, .int 3 t2, .int 0 t3, .int 2 t4][q]? = some (.int (c : Int) tc) := by
  have : q = 0 ∨ q = 1 ∨ q = 2 ∨ q = 3 ∨ q = 4 := by omega
  rcases this with rfl | rfl | rfl | rfl | rfl
  · exact ⟨2, _, by omega, rfl⟩
  · exact ⟨1, _, by omega, rfl⟩
  · exact ⟨3, _, by omega, rfl⟩
  · exact ⟨0, _, by omega, rfl⟩
  · exact ⟨2, _, by omega, rfl⟩
theorem item5 {w : World} {A : Around} {E : Value → Shared → Prop} {s : Shared} {value slice : Expr} {a : Addr} {t0 t1 t2 t3 t4 : Tok} {i : Int} {u : Tok} {Q : Value → Shared → Prop} (hl : s.heap.IsList a #[Value.int 2 t0, .int 1 t1, .int 3 t2, .int 0 t3, .int 2 t4])
    (h0 : 0 ≤ i) (h1 : i < 5) (h : ∀ (c : Nat) (tc : Tok), c ≤ 3 → Q (.int (c : Int) tc) s)
    (hs : subscripted slice false (.ref a) (.int i u) = operate [.ref a, .int i u] (getItem (.ref a) (.int i u))) :
    wpAny (model prog w) A (subscriptTail value slice (.ref a) (.int i u)) Q E s := by
  obtain ⟨c, tc, hc, hx⟩ := five (t0 := t0) (t1 := t1) (t2 := t2) (t3 := t3) (t4 := t4) (q := i.toNat) (by omega)
  exact tail_any hl.typeIs slot_list_getitem.lookup (wpAny_getItem_list hl h0 (by omega) (by simpa using hx) (h c tc hc)) hs
theorem eN_pos : ∀ n, 1 ≤ eN n
  | 0 => Nat.le_refl _
  | n + 1 => by simp only [eN]; omega
theorem zN_pos : ∀ n, 1 ≤ zN n
  | 0 => Nat.le_refl _
  | n + 1 => by simp only [zN]; omega
/-- the state of the loop that draws the parts of one part -/
inductive DJ (g : Heap) (L' hand scr words : Addr) (n m lab : Nat) (k b : Int) (i : Nat) (mm : Str → Option Value) (cs : List (Addr × Obj)) : Prop
  | mk (S : Heap) (acc : List Value) (ds : List D) (kp kh kw : Nat) (t1 t2 : Tok) (k' b' : Int) (ws' : List Value) (j : Nat) (pl : Addr) (f19 : mm (Str.ofString "parts") = some (Value.ref pl)) (f29 : mm (Str.ofString "hand") = some (Value.ref hand)) (f39 : mm (Str.ofString "words") = some (Value.ref words)) (f49 : (∃ t, mm (Str.ofString "deep") = some (Value.int (n : Int) t))) (f59 : (∃ t, mm (Str.ofString "label") = some (Value.str (Str.mk #[lab]) t))) (f69 : cs = (pl, W.listOf acc.toArray kp) :: (hand, W.listOf #[.ref scr, .int k' t1, .int b' t2] kh) :: (words, W.listOf ws'.toArray kw) :: frz g S) (f79 : g.StaysIn S) (f89 : S.get? L' = none) (f99 : S.get? pl = none) (f109 : S.get? hand = none) (f119 : S.get? words = none) (f129 : hand < pl) (f139 : words < pl) (f149 : Drawns (newer g S) acc ds) (f159 : leavesL ds = List.range' m j) (f169 : Words ws' (List.range (m + j))) (f179 : htL ds ≤ n) (f189 : sizeL ds ≤ i * zN n) (f199 : k + 2 ≤ k') (f209 : k' ≤ k + 2 + (i * eN n : Nat)) (f219 : 0 ≤ b') (f229 : b' ≤ b) : DJ g L' hand scr words n m lab k b i mm cs
theorem htL_snoc (ds : List D) (d : D) : htL (ds ++ [d]) = max (htL ds) d.ht := by
  induction ds with
  | nil => simp [htL]
  | cons x r ih => simp only [List.cons_append, htL, ih]; exact (Nat.max_assoc _ _ _).symm
theorem sizeL_snoc (ds : List D) (d : D) : sizeL (ds ++ [d]) = sizeL ds + d.size := by
  induction ds with
  | nil => simp [sizeL]
  | cons x r ih => simp only [List.cons_append, sizeL, ih]; omega
theorem range'_snoc (m j i : Nat) : List.range' m j ++ List.range' (m + j) i = List.range' m (j + i) := by
  rw [← List.range'_append_1]
def DrawnSpec (w : World) (n : Nat) : Prop := ∀ {A : Around} {s : Shared} {B : Heap} {mean : ExcName → Option Value} {mg mb : Str → Option Value} {hand scr words : Addr} {k b : Int} {tn : Tok} {vs : List Value} {ns : List Int} {ws : List Value} {kw m : Nat} {Q E : Value → Shared → Prop},
    (hd.heap_1 w.params).In B → TopH mean mg mb B → B.StaysIn s.heap → A.depth + n + 15 < recursionLimit → A.units + 60 * n + 100 < cLine → A.handled = none →
    HandAt s.heap hand scr k b → B.get? hand = none → B.get? words = none → scr ≠ hand → scr ≠ words → hand ≠ words → s.heap.IsList scr vs.toArray → IntsAre vs ns → ns.length ≤ 63 → 0 ≤ k → k + (2 + 3 * eN n : Nat) < 100000 → 0 ≤ b → b ≤ 8 →
    s.heap.get? words = some (W.listOf ws.toArray kw) → Words ws (List.range m) → m + (1 + 3 * zN n) ≤ 5000 →
    (∀ a d j k' b' ws' kw' h' tk', Kp [hand, words] s.heap h' → DrawnAt (newer s.heap h') (.ref a) d → d.leaves = List.range' m j → d.ht ≤ n + 1 → d.size ≤ 1 + 3 * zN n →
      h'.get? words = some (W.listOf ws'.toArray kw') → Words ws' (List.range (m + j)) → HandAt h' hand scr k' b' → k ≤ k' → k' ≤ k + (2 + 3 * eN n : Nat) → 0 ≤ b' → b' ≤ b → Q (.ref a) { s with heap := h', toks := tk' }) →
    wpAny (model prog w) A (call (.ref 170) [.ref hand, .int (n : Int) tn, .ref words]) Q E s
namespace CDR
noncomputable section
abbrev Tup : Type := (World) × (Nat) × (Shared) × (Heap) × (ExcName → Option Value) × (Str → Option Value) × (Str → Option Value) × (Addr) × (Addr) × (Addr) × (Int) × (Int) × (Tok) × (List Value) × (List Int) × (List Value) × (Nat) × (Nat) × (Value → Shared → Prop) × (Value → Shared → Prop) × (Nat) × (Option (List Env)) × (Option (List Code)) × (Nat)
def Pp : Tup → Prop := fun tt9 => (fun (w : World) (n : Nat) (s : Shared) (B : Heap) (mean : ExcName → Option Value) (mg : Str → Option Value) (mb : Str → Option Value) (hand : Addr) (scr : Addr) (words : Addr) (k : Int) (b : Int) (tn : Tok) (vs : List Value) (ns : List Int) (ws : List Value) (kw : Nat) (m : Nat) (Q : Value → Shared → Prop) (E : Value → Shared → Prop) (dp : Nat) (fr : Option (List Env)) (gd : Option (List Code)) (un : Nat) => ∀ (IH : ∀ m, m < n → DrawnSpec w m) (X : (hd.heap_1 w.params).In B) (T : TopH mean mg mb B) (U : B.StaysIn s.heap) (hd1 : (⟨none, dp, fr, gd, un⟩ : Around).depth + n + 15 < recursionLimit) (hu : (⟨none, dp, fr, gd, un⟩ : Around).units + 60 * n + 100 < cLine) (hH : HandAt s.heap hand scr k b) (hBh : B.get? hand = none) (hBw : B.get? words = none) (n1 : scr ≠ hand) (n2 : scr ≠ words) (n3 : hand ≠ words) (hS : s.heap.IsList scr vs.toArray) (hI : IntsAre vs ns) (hl : ns.length ≤ 63) (hk0 : 0 ≤ k) (hk1 : k + (2 + 3 * eN n : Nat) < 100000) (hb0 : 0 ≤ b) (hb1 : b ≤ 8) (hW : s.heap.get? words = some (W.listOf ws.toArray kw)) (hWs : Words ws (List.range m)) (hm : m + (1 + 3 * zN n) ≤ 5000) (hQ : ∀ a d j k' b' ws' kw' h' tk', Kp [hand, words] s.heap h' → DrawnAt (newer s.heap h') (.ref a) d → d.leaves = List.range' m j → d.ht ≤ n + 1 → d.size ≤ 1 + 3 * zN n →
      h'.get? words = some (W.listOf ws'.toArray kw') → Words ws' (List.range (m + j)) → HandAt h' hand scr k' b' → k ≤ k' → k' ≤ k + (2 + 3 * eN n : Nat) → 0 ≤ b' → b' ≤ b → Q (.ref a) { s with heap := h', toks := tk' }), wpAny (model prog w) (⟨none, dp, fr, gd, un⟩ : Around) (call (.ref 170) [.ref hand, .int (n : Int) tn, .ref words]) Q E s) tt9.1 tt9.2.1 tt9.2.2.1 tt9.2.2.2.1 tt9.2.2.2.2.1 tt9.2.2.2.2.2.1 tt9.2.2.2.2.2.2.1 tt9.2.2.2.2.2.2.2.1 tt9.2.2.2.2.2.2.2.2.1 tt9.2.2.2.2.2.2.2.2.2.1 tt9.2.2.2.2.2.2.2.2.2.2.1 tt9.2.2.2.2.2.2.2.2.2.2.2.1 tt9.2.2.2.2.2.2.2.2.2.2.2.2.1 tt9.2.2.2.2.2.2.2.2.2.2.2.2.2.1 tt9.2.2.2.2.2.2.2.2.2.2.2.2.2.2.1 tt9.2.2.2.2.2.2.2.2.2.2.2.2.2.2.2.1 tt9.2.2.2.2.2.2.2.2.2.2.2.2.2.2.2.2.1 tt9.2.2.2.2.2.2.2.2.2.2.2.2.2.2.2.2.2.1 tt9.2.2.2.2.2.2.2.2.2.2.2.2.2.2.2.2.2.2.1 tt9.2.2.2.2.2.2.2.2.2.2.2.2.2.2.2.2.2.2.2.1 tt9.2.2.2.2.2.2.2.2.2.2.2.2.2.2.2.2.2.2.2.2.1 tt9.2.2.2.2.2.2.2.2.2.2.2.2.2.2.2.2.2.2.2.2.2.1 tt9.2.2.2.2.2.2.2.2.2.2.2.2.2.2.2.2.2.2.2.2.2.2.1 tt9.2.2.2.2.2.2.2.2.2.2.2.2.2.2.2.2.2.2.2.2.2.2.2
def cc : Tup := @Classical.epsilon Tup (nePair neWorld (nePair (⟨default⟩ : Nonempty (Nat)) (nePair neShared (nePair (⟨default⟩ : Nonempty (Heap)) (nePair (⟨default⟩ : Nonempty (ExcName → Option Value)) (nePair (⟨default⟩ : Nonempty (Str → Option Value)) (nePair (⟨default⟩ : Nonempty (Str → Option Value)) (nePair (⟨default⟩ : Nonempty (Addr)) (nePair (⟨default⟩ : Nonempty (Addr)) (nePair (⟨default⟩ : Nonempty (Addr)) (nePair (⟨default⟩ : Nonempty (Int)) (nePair (⟨default⟩ : Nonempty (Int)) (nePair (⟨default⟩ : Nonempty (Tok)) (nePair (⟨default⟩ : Nonempty (List Value)) (nePair (⟨default⟩ : Nonempty (List Int)) (nePair (⟨default⟩ : Nonempty (List Value)) (nePair (⟨default⟩ : Nonempty (Nat)) (nePair (⟨default⟩ : Nonempty (Nat)) (nePair (⟨default⟩ : Nonempty (Value → Shared → Prop)) (nePair (⟨default⟩ : Nonempty (Value → Shared → Prop)) (nePair (⟨default⟩ : Nonempty (Nat)) (nePair (⟨default⟩ : Nonempty (Option (List Env))) (nePair (⟨default⟩ : Nonempty (Option (List Code))) (⟨default⟩ : Nonempty (Nat))))))))))))))))))))))))) fun t => ¬ Pp t
def w : World := cc.1
def n : Nat := cc.2.1
def s : Shared := cc.2.2.1
def B : Heap := cc.2.2.2.1
def mean : ExcName → Option Value := cc.2.2.2.2.1
def mg : Str → Option Value := cc.2.2.2.2.2.1
def mb : Str → Option Value := cc.2.2.2.2.2.2.1
def hand : Addr := cc.2.2.2.2.2.2.2.1
def scr : Addr := cc.2.2.2.2.2.2.2.2.1
def words : Addr := cc.2.2.2.2.2.2.2.2.2.1
def k : Int := cc.2.2.2.2.2.2.2.2.2.2.1
def b : Int := cc.2.2.2.2.2.2.2.2.2.2.2.1
def tn : Tok := cc.2.2.2.2.2.2.2.2.2.2.2.2.1
def vs : List Value := cc.2.2.2.2.2.2.2.2.2.2.2.2.2.1
def ns : List Int := cc.2.2.2.2.2.2.2.2.2.2.2.2.2.2.1
def ws : List Value := cc.2.2.2.2.2.2.2.2.2.2.2.2.2.2.2.1
def kw : Nat := cc.2.2.2.2.2.2.2.2.2.2.2.2.2.2.2.2.1
def m : Nat := cc.2.2.2.2.2.2.2.2.2.2.2.2.2.2.2.2.2.1
def Q : Value → Shared → Prop := cc.2.2.2.2.2.2.2.2.2.2.2.2.2.2.2.2.2.2.1
def E : Value → Shared → Prop := cc.2.2.2.2.2.2.2.2.2.2.2.2.2.2.2.2.2.2.2.1
def dp : Nat := cc.2.2.2.2.2.2.2.2.2.2.2.2.2.2.2.2.2.2.2.2.1
def fr : Option (List Env) := cc.2.2.2.2.2.2.2.2.2.2.2.2.2.2.2.2.2.2.2.2.2.1
def gd : Option (List Code) := cc.2.2.2.2.2.2.2.2.2.2.2.2.2.2.2.2.2.2.2.2.2.2.1
def un : Nat := cc.2.2.2.2.2.2.2.2.2.2.2.2.2.2.2.2.2.2.2.2.2.2.2
def L' : Addr := s.heap.objs.size
theorem core (IH : ∀ m, m < n → DrawnSpec w m) (X : (hd.heap_1 w.params).In B) (T : TopH mean mg mb B) (U : B.StaysIn s.heap) (hd1 : (⟨none, dp, fr, gd, un⟩ : Around).depth + n + 15 < recursionLimit) (hu : (⟨none, dp, fr, gd, un⟩ : Around).units + 60 * n + 100 < cLine) (hH : HandAt s.heap hand scr k b) (hBh : B.get? hand = none) (hBw : B.get? words = none) (n1 : scr ≠ hand) (n2 : scr ≠ words) (n3 : hand ≠ words) (hS : s.heap.IsList scr vs.toArray) (hI : IntsAre vs ns) (hl : ns.length ≤ 63) (hk0 : 0 ≤ k) (hk1 : k + (2 + 3 * eN n : Nat) < 100000) (hb0 : 0 ≤ b) (hb1 : b ≤ 8) (hW : s.heap.get? words = some (W.listOf ws.toArray kw)) (hWs : Words ws (List.range m)) (hm : m + (1 + 3 * zN n) ≤ 5000) (hQ : ∀ a d j k' b' ws' kw' h' tk', Kp [hand, words] s.heap h' → DrawnAt (newer s.heap h') (.ref a) d → d.leaves = List.range' m j → d.ht ≤ n + 1 → d.size ≤ 1 + 3 * zN n →
      h'.get? words = some (W.listOf ws'.toArray kw') → Words ws' (List.range (m + j)) → HandAt h' hand scr k' b' → k ≤ k' → k' ≤ k + (2 + 3 * eN n : Nat) → 0 ≤ b' → b' ≤ b → Q (.ref a) { s with heap := h', toks := tk' }) : wpAny (model prog w) (⟨none, dp, fr, gd, un⟩ : Around) (call (.ref 170) [.ref hand, .int (n : Int) tn, .ref words]) Q E s := by
    obtain ⟨ta, tb, kh, hH⟩ := hH
    replace hd1 : dp + n + 15 < recursionLimit := hd1
    replace hu : un + 60 * n + 100 < cLine := hu
    refine wpAny_call ?_
    k_dflt (refine' enter2 (L₀ := L') (binds := [(Str.ofString "hand", .ref hand), (Str.ofString "deep", .int (n : Int) tn), (Str.ofString "words", .ref words)]) [(hand, W.listOf #[.ref scr, .int k ta, .int b tb] kh), (words, W.listOf ws.toArray kw)] X T U ?hW ?k6 ?k7 ?k8 ?k9 ?kB ?_ ?c2 ?c3 ?c4 ?c5; (case k6 => k_is); (case k7 => k_is); (case k8 => (show dp < recursionLimit; omega)); (case k9 => first | exact BindsTo.of_eq rfl | exact binds_K (X.keeps U) rfl (by k_is) rfl rfl rfl); (case c5 => decide); (case kB => exact locs rfl); (case c2 => exact rfl); (case c3 => exact rfl); (case c4 => exact rfl))
    · intro q hq
      rcases List.mem_cons.mp hq with rfl | hq
      · exact ⟨hH, hBh⟩
      · cases List.mem_singleton.mp hq
        exact ⟨hW, hBw⟩
    · intro g h₁ hg st F N X' T' up
      (try dsimp only)
      k_fold
      have hS' : g.IsList scr vs.toArray := by
        obtain ⟨o, ho, r⟩ := hS
        exact ⟨o, by rw [hg]; exact hideAll_get _ ho (by simp [n1, n2]), r⟩
      have gh := (N _ (.head _)).2.2
      have gw := (N _ (.tail _ (.head _))).2.2
      have n3' := neN n3
      k_steps
      rename Fr _ _ _ _ => F1
      rename News _ _ _ _ => N1
      k_dflt refine' (Stop.mk (next_ok X' T' F1.keep (show dp + 1 + 10 < recursionLimit by omega) (show un + 3 + 50 < cLine by omega) rfl ⟨_, _, _, (N1 _ (.head _)).1⟩ gh n1 (isList_keeps hS' F1.keep) hI hl hk0 (by omega) (by omega) (by omega) ?_))
      intro i ti h2 tk2 hi0 hi1 kp2 hH2
      obtain ⟨ta2, tb2, kh2, hH2⟩ := hH2
      obtain ⟨F2, N2⟩ := hand_call F1 N1 (by k_upd) kp2 hH2
      clear F1 N1
      clear up
      obtain ⟨lab, hlab⟩ : ∃ c, (seqIndex? i (Str.ofString "SAB").length).bind ((Str.ofString "SAB").cps[·]?) = some c := by
        have : i = 0 ∨ i = 1 ∨ i = 2 := by omega
        rcases this with rfl | rfl | rfl <;> exact ⟨_, rfl⟩
      k_dflt (refine' itemS_H hlab hi0 (by omega) ?_ ?hs ?hg; (case hs => with_unfolding_all rfl); (case hg => (intro _; with_unfolding_all rfl)))
      k_steps
      refine Stop.mk (wpAny_For ?_)
      k_steps
      rename Fr _ _ _ _ => F1
      rename News _ _ _ _ => N1
      rename hand < _ ∧ words < _ => lp
      k_dflt refine' (Stop.mk (next_ok X' T' F1.keep (show dp + 1 + 10 < recursionLimit by omega) (show un + 3 + 50 < cLine by omega) rfl ⟨_, _, _, (N1 _ (.tail _ (.tail _ (.head _)))).1⟩ gh n1 (isList_keeps hS' F1.keep) hI hl (by omega) (by omega) (by omega) (by omega) ?_))
      intro i2 ti2 h3 tk3 hi20 hi21 kp3 hH3
      obtain ⟨ta3, tb3, kh3, hH3⟩ := hH3
      obtain ⟨F3, N3⟩ := hand_call F1 N1 (by k_upd) kp3 hH3
      clear F1 N1
      k_dflt (refine' item5 ?hl hi20 hi21 ?_ ?hs; (case hl => exact isList_at (N3 _ (.head _)).1); (case hs => with_unfolding_all rfl))
      intro c tc hc3
      k_steps
      rename Fr _ _ _ _ => F4
      rename News _ _ _ _ => N4
      rename IsRange _ _ _ _ _ _ _ _ => hR
      have hrs : Builtin.Range.rangeSize 0 (c : Int) 1 = (c : Int) := by rw [rangeSize_one]; split <;> omega
      have hsm : Builtin.Range.small 0 (c : Int) 1 = true := small_one (by omega) (by omega) (by omega) (by omega)
      have nh := N4 _ (.tail _ (.tail _ (.head _)))
      have np := N4 _ (.tail _ (.head _))
      have nl := N4 _ (.tail _ (.tail _ (.tail _ (.head _))))
      have gL : g.get? L' = none := by
        cases q : g.get? L' with
        | none => rfl
        | some o => exact absurd (Heap.lt_size q) (Nat.not_lt.mpr F4.above)
      have ez := zN_pos n
      have ee := eN_pos n
      have N5 := News.sub (news' := [_, _, _] ++ frz g g) N4 (fun p hp => by rw [frz_self, List.append_nil] at hp; exact .tail _ hp)
      k_dflt refine' (Stop.mk (forRange F4 N5 rfl hR hsm hrs rfl rfl
        (fun i mm cs => DJ g L' hand scr words n m lab k b i mm cs)
        ⟨g, [], [], 0, kh3, kw, ta3, tb3, k + 1 + 1, b, ws, 0, _, rfl, rfl, rfl, ⟨_, rfl⟩, ⟨_, rfl⟩, rfl, stays_refl _, gL, np.2.2, gh, gw, ?_, ?_, .nil, rfl, hWs, by simp [htL], by simp [sizeL], by omega, by omega, hb0, Int.le_refl _⟩ ?_ ?_))
      · exact lp.1
      · exact lp.2
      · rintro i tk0 mm cs h7 tk7 I oI hi ⟨S, acc, ds, kp, kh5, kw5, t1, t2, k', b', ws', j, pl, m1, m2, m3, ⟨t4, m4⟩, ⟨t5, m5⟩, rfl, uS, sL, sp, sh, sw, hhp, hwp, hD, hlv, hWw, hht, hsz, hk1', hk2', hb1', hb2'⟩ hcI F8 N8
        rw [over5 m1 m2 m3 m4 m5] at F8
        replace F8 : Fr g L' h7 _ := F8
        have nIp := neN (hcI _ (.head _))
        have nIh := neN (hcI _ (.tail _ (.head _)))
        have nIw := neN (hcI _ (.tail _ (.tail _ (.head _))))
        dsimp only at nIp nIh nIw
        have nhp := ltN hhp
        have nwp := ltN hwp
        have lD := hD.1
        have lS := len_le_sizeL ds
        have lW := hWw.length
        rw [List.length_range] at lW
        have lJ := leavesL_le_size ds
        rw [hlv, List.length_range'] at lJ
        have hi3 : i * zN n ≤ 3 * zN n := Nat.mul_le_mul_right _ (by omega)
        have hi4 : (i + 1) * zN n = i * zN n + zN n := by rw [Nat.add_mul, Nat.one_mul]
        have hi5 : (i + 1) * eN n = i * eN n + eN n := by rw [Nat.add_mul, Nat.one_mul]
        have hi6 : (i + 1) * eN n ≤ 3 * eN n := Nat.mul_le_mul_right _ (by omega)
        have hi7 : (i + 1) * zN n ≤ 3 * zN n := Nat.mul_le_mul_right _ (by omega)
        have hwl : ws'.length ≤ 99999 := by omega
        have hal : acc.length ≤ 99999 := by omega
        have leafFin : ∀ (h' : Heap) (tk' : Nat) (mm' : Str → Option Value) (t : Tok) (kp' kw' kh' : Nat) (k'' : Int) (ta' tb' : Tok), Fr g L' h' mm' → mm' (Str.ofString "parts") = some (Value.ref pl) → mm' (Str.ofString "hand") = some (Value.ref hand) → mm' (Str.ofString "words") = some (Value.ref words) → (∃ t, mm' (Str.ofString "deep") = some (Value.int (n : Int) t)) → (∃ t, mm' (Str.ofString "label") = some (Value.str (Str.mk #[lab]) t)) →
            News g L' h' ((I, oI) :: (pl, W.listOf (acc.toArray.push (.str (wordStr ws'.length) t)) kp') :: (hand, W.listOf #[.ref scr, .int k'' ta', .int b' tb'] kh') :: (words, W.listOf (ws'.toArray.push (.str (wordStr ws'.length) t)) kw') :: frz g S) → k' ≤ k'' → k'' ≤ k' + 1 →
            Stop (∃ h'' tk'' m' cs', ({ s with heap := h', toks := tk' } : Shared) = { s with heap := h'', toks := tk'' } ∧ Fr g L' h'' m' ∧ News g L' h'' ((I, oI) :: cs') ∧ (∀ p ∈ cs', p.1 ≠ I) ∧ DJ g L' hand scr words n m lab k b (i + 1) m' cs') := by
          intro h' tk' mm' t kp' kw' kh' k'' ta' tb' Fx a1 a2 a3 a4 a5 Nx c1 c2
          rw [List.push_toArray, List.push_toArray] at Nx
          refine Stop.mk ⟨h', tk', mm', _, rfl, Fx, Nx, fun p hp => ?_, S, acc ++ [_], ds ++ [.leaf ws'.length], kp', kh', kw', ta', tb', k'', b', ws' ++ [_], j + 1, pl, a1, a2, a3, a4, a5, rfl, uS, sL, sp, sh, sw, hhp, hwp, hD.snoc .leaf, ?_, ?_, ?_, ?_, by omega, by omega, hb1', hb2'⟩
          · rcases List.mem_cons.mp hp with rfl | hp
            · exact nIp
            · rcases List.mem_cons.mp hp with rfl | hp
              · exact nIh
              · rcases List.mem_cons.mp hp with rfl | hp
                · exact nIw
                · exact hcI p (.tail _ (.tail _ (.tail _ hp)))
          · rw [leavesL_append, hlv, ← range'_snoc, lW]; rfl
          · rw [← Nat.add_assoc, List.range_succ, lW]; exact hWw.append (.one _ _)
          · rw [htL_snoc]; simp only [D.ht]; omega
          · rw [sizeL_snoc]; simp only [D.size]; omega
        refine absP fun P9 hP9 => ?_
        k_steps
        · rename Fr _ _ _ _ => F9
          rename News _ _ _ _ => N9
          refine hP9 _ _ ?_
          show Stop _
          exact leafFin _ _ _ _ _ _ _ _ _ _ F9 rfl rfl rfl ⟨_, rfl⟩ ⟨_, rfl⟩ N9 (by omega) (by omega)
        · rename Fr _ _ _ _ => F9
          rename News _ _ _ _ => N9
          refine hP9 _ _ ?_
          show Stop _
          exact leafFin _ _ _ _ _ _ _ _ _ _ F9 rfl rfl rfl ⟨_, rfl⟩ ⟨_, rfl⟩ N9 (by omega) (by omega)
        · rename (n : Int) ≠ 0 => hn0
          rename b' ≠ 0 => hbn0
          replace N8 : News g L' h7 _ := N8
          k_dflt refine' (Stop.mk (next_ok X' T' F8.keep (show dp + 1 + 10 < recursionLimit by omega) (show un + 3 + 50 < cLine by omega) rfl ⟨_, _, _, (N8 _ (.tail _ (.tail _ (.head _)))).1⟩ gh n1 (isList_keeps hS' F8.keep) hI hl (by omega) (by omega) (by omega) (by omega) ?_))
          intro i3 ti3 h8 tk8 hi30 hi31 kp8 hH8
          obtain ⟨ta8, tb8, kh8, hH8⟩ := hH8
          obtain ⟨F9, N9⟩ := hand_call F8 N8 (by k_upd) kp8 hH8
          clear F8 N8
          (try dsimp only)
          k_steps
          · rename Fr _ _ _ _ => Fa
            rename News _ _ _ _ => Na
            refine hP9 _ _ ?_
            show Stop _
            exact leafFin _ _ _ _ _ _ _ _ _ _ Fa rfl rfl rfl ⟨_, rfl⟩ ⟨_, rfl⟩ Na (by omega) (by omega)
          · rename Fr _ _ _ _ => Fa
            rename News _ _ _ _ => Na
            obtain ⟨n', hn'⟩ : ∃ n', n = n' + 1 := ⟨n - 1, by omega⟩
            rw [show ((n : Int) - 1) = (n' : Int) by omega]
            have he : eN n = 1 + (2 + 3 * eN n') := by rw [hn']; rfl
            have hz : zN n = 1 + 3 * zN n' := by rw [hn']; rfl
            have sI : S.get? I = none := by
              cases q : S.get? I with
              | none => rfl
              | some o => exact absurd rfl (hcI (I, o) (.tail _ (.tail _ (.tail _ (mem_frz.mpr ⟨(Na _ (.head _)).2.2, q⟩)))))
            have Nb : News g L' _ ((hand, _) :: (words, _) :: (I, oI) :: (pl, _) :: frz g S) := News.sub Na (fun p hp => by
              rcases List.mem_cons.mp hp with rfl | hp
              · exact .tail _ (.tail _ (.head _))
              · rcases List.mem_cons.mp hp with rfl | hp
                · exact .tail _ (.tail _ (.tail _ (.head _)))
                · rcases List.mem_cons.mp hp with rfl | hp
                  · exact .head _
                  · rcases List.mem_cons.mp hp with rfl | hp
                    · exact .tail _ (.head _)
                    · exact .tail _ (.tail _ (.tail _ (.tail _ hp))))
            k_dflt refine' (Stop.mk (IH n' (by omega) X' T' Fa.keep (show dp + 1 + n' + 15 < recursionLimit by omega) (show un + 3 + 60 * n' + 100 < cLine by omega) rfl ⟨_, _, _, (Nb _ (.head _)).1⟩ gh gw n1 n2 n3 (isList_keeps hS' Fa.keep) hI hl (by omega) (by omega) (by omega) (by omega) (Nb _ (.tail _ (.head _))).1 hWw (by omega) ?_))
            intro a d j2 k2 b2 ws2 kw2 h10 tk10 kp10 dA dl dht dsz hwA hWA hHA hk2a hk2b hb2a hb2b
            obtain ⟨ta10, tb10, kh10, hHA⟩ := hHA
            obtain ⟨Fc, Nc⟩ := hand_call2 Fa Nb (fun q hq => by
              rcases List.mem_cons.mp hq with rfl | hq
              · exact ⟨Ne.symm nIh, Ne.symm nIw⟩
              · rcases List.mem_cons.mp hq with rfl | hq
                · exact ⟨Ne.symm (Nat.ne_of_lt hhp), Ne.symm (Nat.ne_of_lt hwp)⟩
                · exact ⟨frz_off sh q hq, frz_off sw q hq⟩) kp10 hHA hwA
            obtain ⟨S', Nd, v1, v2, o1, o2, o3, o4⟩ := refreeze [(I, oI), (pl, _), (hand, _), (words, _)] Fc Nc (fun p hp => by
                rcases List.mem_cons.mp hp with rfl | hp
                · exact .tail _ (.tail _ (.head _))
                · rcases List.mem_cons.mp hp with rfl | hp
                  · exact .tail _ (.tail _ (.tail _ (.head _)))
                  · rcases List.mem_cons.mp hp with rfl | hp
                    · exact .head _
                    · rw [List.mem_singleton.mp hp]; exact .tail _ (.head _))
              (fun p hp => .tail _ (.tail _ (.tail _ (.tail _ hp)))) uS sL (fun p hp => by
                rcases List.mem_cons.mp hp with rfl | hp
                · exact sI
                · rcases List.mem_cons.mp hp with rfl | hp
                  · exact sp
                  · rcases List.mem_cons.mp hp with rfl | hp
                    · exact sh
                    · rw [List.mem_singleton.mp hp]; exact sw)
            have oI' := o2 _ (.head _)
            have op' := o2 _ (.tail _ (.head _))
            have oh' := o2 _ (.tail _ (.tail _ (.head _)))
            have ow' := o2 _ (.tail _ (.tail _ (.tail _ (.head _))))
            dsimp only at oI' op' oh' ow'
            have dB : DrawnAt (newer g S') (.ref a) d := dA.up (newer_frz2 Fa (fun p hp => by
                rcases List.mem_cons.mp hp with rfl | hp
                · exact ⟨_, (Nb _ (.tail _ (.tail _ (.head _)))).1⟩
                · rcases List.mem_cons.mp hp with rfl | hp
                  · exact ⟨_, (Nb _ (.tail _ (.tail _ (.tail _ (.head _))))).1⟩
                  · rcases List.mem_cons.mp hp with rfl | hp
                    · exact ⟨_, (Nb _ (.head _)).1⟩
                    · rw [List.mem_singleton.mp hp]; exact ⟨_, (Nb _ (.tail _ (.head _))).1⟩) o3)
            clear Fa Na Nb Nc dA o3 IH hQ leafFin
            (try dsimp only)
            k_steps
            rename Fr _ _ _ _ => Fe
            rename News _ _ _ _ => Ne
            rw [List.push_toArray] at Ne
            refine hP9 _ _ ?_
            show Stop _
            refine Stop.mk ⟨_, _, _, _, rfl, Fe, Ne, fun p hp => ?_, S', acc ++ [_], ds ++ [d], _, _, _, _, _, _, _, ws2, j + j2, pl, rfl, rfl, rfl, ⟨_, rfl⟩, ⟨_, rfl⟩, rfl, v1, o1, op', oh', ow', hhp, hwp, (hD.up (newer_up (stays_refl _) v2)).snoc dB, ?_, ?_, ?_, ?_, by omega, by omega, by omega, by omega⟩
            · rcases List.mem_cons.mp hp with rfl | hp
              · exact nIp
              · rcases List.mem_cons.mp hp with rfl | hp
                · exact nIh
                · rcases List.mem_cons.mp hp with rfl | hp
                  · exact nIw
                  · exact frz_off oI' p hp
            · rw [leavesL_append, hlv, ← range'_snoc, ← dl]; simp [leavesL]
            · rw [← Nat.add_assoc]; exact hWA
            · rw [htL_snoc]; omega
            · rw [sizeL_snoc]; omega
      · rintro mm cs h7 tk7 ⟨S, acc, ds, kp, kh5, kw5, t1, t2, k', b', ws', j, pl, m1, m2, m3, ⟨t4, m4⟩, ⟨t5, m5⟩, rfl, uS, sL, sp, sh, sw, hhp, hwp, hD, hlv, hWw, hht, hsz, hk1', hk2', hb1', hb2'⟩ F8 N8
        rw [over5 m1 m2 m3 m4 m5] at F8
        replace F8 : Fr g L' h7 _ := F8
        replace N8 : News g L' h7 _ := N8
        have nhp := ltN hhp
        have nwp := ltN hwp
        have hi3 : c * zN n ≤ 3 * zN n := Nat.mul_le_mul_right _ (by omega)
        have hi6 : c * eN n ≤ 3 * eN n := Nat.mul_le_mul_right _ (by omega)
        (try dsimp only)
        clear IH
        k_steps
        rename Fr _ _ _ _ => Fe
        rename News _ _ _ _ => Ne
        rename _ < _ ∧ _ => lD
        have ne := Ne _ (.head _)
        have np := Ne _ (.tail _ (.head _))
        have nh := Ne _ (.tail _ (.tail _ (.head _)))
        have nw := Ne _ (.tail _ (.tail _ (.tail _ (.head _))))
        have hgW : g = hideAll s.heap [hand, words] := hg
        have hSe : S.StaysIn _ := up_of Fe Ne (fun p hp => .tail _ (.tail _ (.tail _ (.tail _ hp)))) uS
        have offW : ∀ a ∈ [hand, words], S.get? a = none := fun a ha => by
          rcases List.mem_cons.mp ha with rfl | ha
          · exact sh
          · rw [List.mem_singleton.mp ha]; exact sw
        have fD : s.heap.get? _ = none := fresh_of hgW ne.2.2 (fun q => by
          rcases List.mem_cons.mp q with q | q
          · exact absurd q.symm (Nat.ne_of_lt lD.2.1)
          · exact absurd (List.mem_singleton.mp q).symm (Nat.ne_of_lt lD.2.2.1))
        have fP : s.heap.get? _ = none := fresh_of hgW np.2.2 (fun q => by
          rcases List.mem_cons.mp q with q | q
          · exact absurd q.symm (Nat.ne_of_lt hhp)
          · exact absurd (List.mem_singleton.mp q).symm (Nat.ne_of_lt hwp))
        refine hQ _ (.node (Str.mk #[lab]) ds) j k' b' ws' kw5 _ _ (kp_of hgW Fe) (.node (newer_iff.mpr ⟨fD, ne.1⟩) (newer_iff.mpr ⟨fP, np.1⟩) hD.1 fun i v d a b => (hD.2 i v d a b).up (newer_hide hgW hSe offW)) hlv ?_ ?_ nw.1 hWw ⟨_, _, _, nh.1⟩ (by omega) (by omega) hb1' hb2'
        · simp only [D.ht]; omega
        · simp only [D.size]; omega
end
end CDR
theorem drawn_step {w : World} {n : Nat} {A : Around} {s : Shared} {B : Heap} {mean : ExcName → Option Value} {mg mb : Str → Option Value} {hand scr words : Addr} {k b : Int} {tn : Tok} {vs : List Value} {ns : List Int} {ws : List Value} {kw m : Nat} {Q E : Value → Shared → Prop}
    (IH : ∀ m, m < n → DrawnSpec w m) (X : (hd.heap_1 w.params).In B) (T : TopH mean mg mb B) (U : B.StaysIn s.heap) (hd1 : A.depth + n + 15 < recursionLimit) (hu : A.units + 60 * n + 100 < cLine) (hh : A.handled = none)
    (hH : HandAt s.heap hand scr k b) (hBh : B.get? hand = none) (hBw : B.get? words = none) (n1 : scr ≠ hand) (n2 : scr ≠ words) (n3 : hand ≠ words) (hS : s.heap.IsList scr vs.toArray) (hI : IntsAre vs ns) (hl : ns.length ≤ 63) (hk0 : 0 ≤ k) (hk1 : k + (2 + 3 * eN n : Nat) < 100000) (hb0 : 0 ≤ b) (hb1 : b ≤ 8)
    (hW : s.heap.get? words = some (W.listOf ws.toArray kw)) (hWs : Words ws (List.range m)) (hm : m + (1 + 3 * zN n) ≤ 5000)
    (hQ : ∀ a d j k' b' ws' kw' h' tk', Kp [hand, words] s.heap h' → DrawnAt (newer s.heap h') (.ref a) d → d.leaves = List.range' m j → d.ht ≤ n + 1 → d.size ≤ 1 + 3 * zN n →
      h'.get? words = some (W.listOf ws'.toArray kw') → Words ws' (List.range (m + j)) → HandAt h' hand scr k' b' → k ≤ k' → k' ≤ k + (2 + 3 * eN n : Nat) → 0 ≤ b' → b' ≤ b → Q (.ref a) { s with heap := h', toks := tk' }) :
    wpAny (model prog w) A (call (.ref 170) [.ref hand, .int (n : Int) tn, .ref words]) Q E s := by
  obtain ⟨hnd, dp, fr, gd, un⟩ := A
  obtain rfl : hnd = none := hh
  have h : ∀ t, CDR.Pp t := epsAll (nePair neWorld (nePair (⟨default⟩ : Nonempty (Nat)) (nePair neShared (nePair (⟨default⟩ : Nonempty (Heap)) (nePair (⟨default⟩ : Nonempty (ExcName → Option Value)) (nePair (⟨default⟩ : Nonempty (Str → Option Value)) (nePair (⟨default⟩ : Nonempty (Str → Option Value)) (nePair (⟨default⟩ : Nonempty (Addr)) (nePair (⟨default⟩ : Nonempty (Addr)) (nePair (⟨default⟩ : Nonempty (Addr)) (nePair (⟨default⟩ : Nonempty (Int)) (nePair (⟨default⟩ : Nonempty (Int)) (nePair (⟨default⟩ : Nonempty (Tok)) (nePair (⟨default⟩ : Nonempty (List Value)) (nePair (⟨default⟩ : Nonempty (List Int)) (nePair (⟨default⟩ : Nonempty (List Value)) (nePair (⟨default⟩ : Nonempty (Nat)) (nePair (⟨default⟩ : Nonempty (Nat)) (nePair (⟨default⟩ : Nonempty (Value → Shared → Prop)) (nePair (⟨default⟩ : Nonempty (Value → Shared → Prop)) (nePair (⟨default⟩ : Nonempty (Nat)) (nePair (⟨default⟩ : Nonempty (Option (List Env))) (nePair (⟨default⟩ : Nonempty (Option (List Code))) (⟨default⟩ : Nonempty (Nat))))))))))))))))))))))))) CDR.Pp CDR.core
  exact h ⟨w, n, s, B, mean, mg, mb, hand, scr, words, k, b, tn, vs, ns, ws, kw, m, Q, E, dp, fr, gd, un⟩ IH X T U hd1 hu hH hBh hBw n1 n2 n3 hS hI hl hk0 hk1 hb0 hb1 hW hWs hm hQ
theorem drawn_spec {w : World} (n : Nat) : DrawnSpec w n := by
  induction n using Nat.strongRecOn with
  | ind n IH =>
    intro A s B mean mg mb hand scr words k b tn vs ns ws kw m Q E X T U hd1 hu hh hH hBh hBw n1 n2 n3 hS hI hl hk0 hk1 hb0 hb1 hW hWs hm hQ
    exact drawn_step IH X T U hd1 hu hh hH hBh hBw n1 n2 n3 hS hI hl hk0 hk1 hb0 hb1 hW hWs hm hQ
theorem drawn_ok {w : World} : ∀ (n : Nat) {A : Around} {s : Shared} {B : Heap} {mean : ExcName → Option Value} {mg mb : Str → Option Value} {hand scr words : Addr} {k b : Int} {tn : Tok} {vs : List Value} {ns : List Int} {ws : List Value} {kw m : Nat} {Q E : Value → Shared → Prop},
    (hd.heap_1 w.params).In B → TopH mean mg mb B → B.StaysIn s.heap → A.depth + n + 15 < recursionLimit → A.units + 60 * n + 100 < cLine → A.handled = none →
    HandAt s.heap hand scr k b → B.get? hand = none → B.get? words = none → scr ≠ hand → scr ≠ words → hand ≠ words → s.heap.IsList scr vs.toArray → IntsAre vs ns → ns.length ≤ 63 → 0 ≤ k → k + (2 + 3 * eN n : Nat) < 100000 → 0 ≤ b → b ≤ 8 →
    s.heap.get? words = some (W.listOf ws.toArray kw) → Words ws (List.range m) → m + (1 + 3 * zN n) ≤ 5000 →
    (∀ a d j k' b' ws' kw' h' tk', Kp [hand, words] s.heap h' → DrawnAt (newer s.heap h') (.ref a) d → d.leaves = List.range' m j → d.ht ≤ n + 1 → d.size ≤ 1 + 3 * zN n →
      h'.get? words = some (W.listOf ws'.toArray kw') → Words ws' (List.range (m + j)) → HandAt h' hand scr k' b' → k ≤ k' → k' ≤ k + (2 + 3 * eN n : Nat) → 0 ≤ b' → b' ≤ b → Q (.ref a) { s with heap := h', toks := tk' }) →
    wpAny (model prog w) A (call (.ref 170) [.ref hand, .int (n : Int) tn, .ref words]) Q E s := fun n => drawn_spec n
end
section
local macro_rules | `(tactic| walk_at "subscriptTail") => `(tactic| (k_here; (with_reducible show wpAny _ _ (subscriptTail _ (Expr.Constant _ _ _) (Value.ref _) (Value.int 0 _)) _ _ _); (k_dflt refine' item0_H ?k1 ?k2 ?_ ?k4 ?k5; (case k1 => is_list); (case k2 => with_reducible assumption); (case k4 => with_unfolding_all rfl); (case k5 => (intro _; with_unfolding_all rfl)); k_whole)))
local macro_rules | `(tactic| walk_at "subscriptTail") => `(tactic| (k_here; (with_reducible show wpAny _ _ (subscriptTail _ (Expr.UnaryOp _ _ _) (Value.ref _) (Value.int _ _)) _ _ _); (k_dflt refine' itemM_H ?k1 ?k2 ?k3 ?_ ?k4 ?k5; (case k1 => is_list); (case k2 => with_reducible assumption); (case k3 => first | assumption | omega); (case k4 => with_unfolding_all rfl); (case k5 => (intro _; with_unfolding_all rfl)); k_whole)))
local macro_rules | `(tactic| walk_at "compareOp In str ref") => `(tactic| (k_here; (with_reducible show wpAny _ _ (compareOp CmpOp.In (Value.str _ _) (Value.ref _)) _ _ _); (k_dflt refine' in_H ?k1 ?k2 ?_; (case k1 => is_list); (case k2 => assumption); k_whole)))
namespace CDWa
noncomputable section
abbrev Tup : Type := (World) × (D) × (Shared) × (Heap) × (ExcName → Option Value) × (Str → Option Value) × (Str → Option Value) × (Value) × (Addr) × (List Value) × (Nat) × (Nat) × (Tok) × (Tok) × (Value → Shared → Prop) × (Value → Shared → Prop) × (Nat) × (Option (List Env)) × (Option (List Code)) × (Nat)
def Pp : Tup → Prop := fun tt9 => (fun (w : World) (d : D) (s : Shared) (B : Heap) (mean : ExcName → Option Value) (mg : Str → Option Value) (mb : Str → Option Value) (v : Value) (st : Addr) (xs : List Value) (a : Nat) (b : Nat) (ta : Tok) (tb : Tok) (Q : Value → Shared → Prop) (E : Value → Shared → Prop) (dp : Nat) (fr : Option (List Env)) (gd : Option (List Code)) (un : Nat) => ∀ (X : (hd.heap_1 w.params).In B) (T : TopH mean mg mb B) (U : B.StaysIn s.heap) (hd1 : (⟨none, dp, fr, gd, un⟩ : Around).depth + d.ht + 20 < recursionLimit) (hu : (⟨none, dp, fr, gd, un⟩ : Around).units + 40 * d.ht + 200 < cLine) (hv : DrawnAt s.heap v d) (hsz : d.size ≤ 9000) (hst : s.heap.IsList st xs.toArray) (hx0 : xs[0]? = some (.str (wordStr a) ta)) (hxl : xs.getLast? = some (.str (wordStr b) tb)) (hxz : xs.length ≤ 9999) (hQ : ∀ r pl ml mv p M k h' tk', Kp [] s.heap h' → (newer s.heap h').get? r = some (tupO #[pl, .ref ml]) → PathAt (newer s.heap h') pl p → (newer s.heap h').get? ml = some (W.listOf mv.toArray k) → Mets (newer s.heap h') mv M → Down a b d p M → Q (.ref r) { s with heap := h', toks := tk' }), wpAny (model prog w) (⟨none, dp, fr, gd, un⟩ : Around) (call (.ref 187) [v, .ref st]) Q E s) tt9.1 tt9.2.1 tt9.2.2.1 tt9.2.2.2.1 tt9.2.2.2.2.1 tt9.2.2.2.2.2.1 tt9.2.2.2.2.2.2.1 tt9.2.2.2.2.2.2.2.1 tt9.2.2.2.2.2.2.2.2.1 tt9.2.2.2.2.2.2.2.2.2.1 tt9.2.2.2.2.2.2.2.2.2.2.1 tt9.2.2.2.2.2.2.2.2.2.2.2.1 tt9.2.2.2.2.2.2.2.2.2.2.2.2.1 tt9.2.2.2.2.2.2.2.2.2.2.2.2.2.1 tt9.2.2.2.2.2.2.2.2.2.2.2.2.2.2.1 tt9.2.2.2.2.2.2.2.2.2.2.2.2.2.2.2.1 tt9.2.2.2.2.2.2.2.2.2.2.2.2.2.2.2.2.1 tt9.2.2.2.2.2.2.2.2.2.2.2.2.2.2.2.2.2.1 tt9.2.2.2.2.2.2.2.2.2.2.2.2.2.2.2.2.2.2.1 tt9.2.2.2.2.2.2.2.2.2.2.2.2.2.2.2.2.2.2.2
def cc : Tup := @Classical.epsilon Tup (nePair neWorld (nePair neD (nePair neShared (nePair (⟨default⟩ : Nonempty (Heap)) (nePair (⟨default⟩ : Nonempty (ExcName → Option Value)) (nePair (⟨default⟩ : Nonempty (Str → Option Value)) (nePair (⟨default⟩ : Nonempty (Str → Option Value)) (nePair (⟨default⟩ : Nonempty (Value)) (nePair (⟨default⟩ : Nonempty (Addr)) (nePair (⟨default⟩ : Nonempty (List Value)) (nePair (⟨default⟩ : Nonempty (Nat)) (nePair (⟨default⟩ : Nonempty (Nat)) (nePair (⟨default⟩ : Nonempty (Tok)) (nePair (⟨default⟩ : Nonempty (Tok)) (nePair (⟨default⟩ : Nonempty (Value → Shared → Prop)) (nePair (⟨default⟩ : Nonempty (Value → Shared → Prop)) (nePair (⟨default⟩ : Nonempty (Nat)) (nePair (⟨default⟩ : Nonempty (Option (List Env))) (nePair (⟨default⟩ : Nonempty (Option (List Code))) (⟨default⟩ : Nonempty (Nat))))))))))))))))))))) fun t => ¬ Pp t
def w : World := cc.1
def d : D := cc.2.1
def s : Shared := cc.2.2.1
def B : Heap := cc.2.2.2.1
def mean : ExcName → Option Value := cc.2.2.2.2.1
def mg : Str → Option Value := cc.2.2.2.2.2.1
def mb : Str → Option Value := cc.2.2.2.2.2.2.1
def v : Value := cc.2.2.2.2.2.2.2.1
def st : Addr := cc.2.2.2.2.2.2.2.2.1
def xs : List Value := cc.2.2.2.2.2.2.2.2.2.1
def a : Nat := cc.2.2.2.2.2.2.2.2.2.2.1
def b : Nat := cc.2.2.2.2.2.2.2.2.2.2.2.1
def ta : Tok := cc.2.2.2.2.2.2.2.2.2.2.2.2.1
def tb : Tok := cc.2.2.2.2.2.2.2.2.2.2.2.2.2.1
def Q : Value → Shared → Prop := cc.2.2.2.2.2.2.2.2.2.2.2.2.2.2.1
def E : Value → Shared → Prop := cc.2.2.2.2.2.2.2.2.2.2.2.2.2.2.2.1
def dp : Nat := cc.2.2.2.2.2.2.2.2.2.2.2.2.2.2.2.2.1
def fr : Option (List Env) := cc.2.2.2.2.2.2.2.2.2.2.2.2.2.2.2.2.2.1
def gd : Option (List Code) := cc.2.2.2.2.2.2.2.2.2.2.2.2.2.2.2.2.2.2.1
def un : Nat := cc.2.2.2.2.2.2.2.2.2.2.2.2.2.2.2.2.2.2.2
def L' : Addr := s.heap.objs.size
theorem core (X : (hd.heap_1 w.params).In B) (T : TopH mean mg mb B) (U : B.StaysIn s.heap) (hd1 : (⟨none, dp, fr, gd, un⟩ : Around).depth + d.ht + 20 < recursionLimit) (hu : (⟨none, dp, fr, gd, un⟩ : Around).units + 40 * d.ht + 200 < cLine) (hv : DrawnAt s.heap v d) (hsz : d.size ≤ 9000) (hst : s.heap.IsList st xs.toArray) (hx0 : xs[0]? = some (.str (wordStr a) ta)) (hxl : xs.getLast? = some (.str (wordStr b) tb)) (hxz : xs.length ≤ 9999) (hQ : ∀ r pl ml mv p M k h' tk', Kp [] s.heap h' → (newer s.heap h').get? r = some (tupO #[pl, .ref ml]) → PathAt (newer s.heap h') pl p → (newer s.heap h').get? ml = some (W.listOf mv.toArray k) → Mets (newer s.heap h') mv M → Down a b d p M → Q (.ref r) { s with heap := h', toks := tk' }) : wpAny (model prog w) (⟨none, dp, fr, gd, un⟩ : Around) (call (.ref 187) [v, .ref st]) Q E s := by
    replace hd1 : dp + d.ht + 20 < recursionLimit := hd1
    replace hu : un + 40 * d.ht + 200 < cLine := hu
    refine wpAny_call ?_
    k_dflt (refine' enter2 (L₀ := L') (binds := [(Str.ofString "drawn", v), (Str.ofString "stretch", .ref st)]) [] X T U ?hW ?k6 ?k7 ?k8 ?k9 ?kB ?_ ?c2 ?c3 ?c4 ?c5; (case k6 => k_is); (case k7 => k_is); (case k8 => (show dp < recursionLimit; omega)); (case k9 => first | exact BindsTo.of_eq rfl | exact binds_K (X.keeps U) rfl (by k_is) rfl rfl rfl); (case c5 => decide); (case kB => exact locs rfl); (case c2 => exact rfl); (case c3 => exact rfl); (case c4 => exact rfl))
    · exact fun _ h => nomatch h
    · intro g h₁ hg _ F N X' T' up
      obtain rfl : g = s.heap := hg
      (try dsimp only)
      k_fold
      k_steps
      rename Fr _ _ _ _ => F1
      rename News _ _ _ _ => N1
      clear up
      have nm := N1 _ (.head _)
      have n0 := N1 _ (.tail _ (.head _))
      rename _ < _ => l1
      have sL0 : s.heap.get? L' = none := by
        cases q : s.heap.get? L' with
        | none => rfl
        | some o => exact absurd (Heap.lt_size q) (Nat.not_lt.mpr F1.above)
      obtain ⟨S0, N4, u1, u2, o1, o2, o3, o4⟩ := refreeze (S := s.heap) [_] F1 N1 (fun p hp => by rw [List.mem_singleton.mp hp]; exact .head _) (by rw [frz_self]; exact fun _ q => nomatch q) (stays_refl _) sL0 (fun p hp => by rw [List.mem_singleton.mp hp]; exact nm.2.2)
      have oM0 := o2 _ (.head _)
      have hP0 : PathAt (newer s.heap S0) (.ref _) [] := ⟨_, [], rfl, newer_iff.mpr ⟨n0.2.2, o3 _ _ n0.1 n0.2.1 (fun p hp q => by rw [List.mem_singleton.mp hp] at q; exact absurd q.symm (Nat.ne_of_lt l1))⟩, .nil⟩
      k_dflt refine' (Stop.mk (whileK F1 N4 (fun n mm cs => ∃ (S : Heap) (mv : List Value) (d' : D) (p : List Nat) (M : List D) (v' pl : Value) (ml : Addr) (km : Nat),
        mm (Str.ofString "place") = some pl ∧ mm (Str.ofString "met") = some (Value.ref ml) ∧ mm (Str.ofString "part") = some v' ∧ mm (Str.ofString "stretch") = some (Value.ref st) ∧
        cs = (ml, W.listOf mv.toArray km) :: frz s.heap S ∧ s.heap.StaysIn S ∧ S.get? L' = none ∧ S.get? ml = none ∧ PathAt (newer s.heap S) pl p ∧ Mets (newer s.heap S) mv M ∧ DrawnAt s.heap v' d' ∧ d'.ht ≤ d.ht ∧ d'.size ≤ d.size ∧ p.length + d'.size ≤ d.size ∧ mv.length + d'.size ≤ d.size ∧
        (∀ p' M', Down a b d' p' M' → Down a b d (p ++ p') (M ++ M')) ∧ n = d'.size) d.size
        ⟨S0, [], d, [], [], v, _, _, 0, rfl, rfl, rfl, rfl, rfl, u1, o1, oM0, hP0, .nil, hv, Nat.le_refl _, Nat.le_refl _, by simp, by simp, fun _ _ h => h, rfl⟩ ?_))
      clear F1 N1 N4 hP0 oM0 o1 o2 o3 o4 u1 u2
      rintro n mm cs h tk ⟨S, mv, d', p, M, v', pl, ml, km, m1, m2, m3, m4, rfl, uS, sL, sM, hP, hM, hv', hht, hsz', hpl, hml, hdn, rfl⟩ F2 N2
      rw [over4 m1 m2 m3 m4] at F2
      replace F2 : Fr s.heap L' h _ := F2
      replace N2 : News s.heap L' h _ := N2
      obtain ⟨pa, ps, rfl, hpa, hps⟩ := hP
      have N3 : News s.heap L' h ((ml, W.listOf mv.toArray km) :: (pa, tupO ps.toArray) :: frz s.heap S) := fun q hq => by
        rcases List.mem_cons.mp hq with rfl | hq
        · exact N2 _ (.head _)
        · rcases List.mem_cons.mp hq with rfl | hq
          · exact N2 _ (.tail _ (mem_frz.mpr (newer_iff.mp hpa)))
          · exact N2 _ (.tail _ hq)
      have nmp := neN (fun q : ml = pa => by subst q; rw [newer_sub _ _ _ _ hpa] at sM; cases sM)
      have fin : ∀ h' tk' xs' p' M' mv' km', Fr s.heap L' h' xs' → ∀ r S', News s.heap L' h' ((r, tupO #[.ref pa, .ref ml]) :: (ml, W.listOf mv'.toArray km') :: frz s.heap S') → s.heap.StaysIn S' → S.StaysIn S' → Mets (newer s.heap S') mv' (M ++ M') → p' = [] → Down a b d' p' M' → Q (.ref r) { s with heap := h', toks := tk' } := by
        intro h' tk' xs' p' M' mv' km' Fx r S' Nx uS' uSS hM' hp' hD
        subst hp'
        have hSh : S'.StaysIn h' := up_of Fx Nx (fun q hq => .tail _ (.tail _ hq)) uS'
        have nr := Nx _ (.head _)
        have nl := Nx _ (.tail _ (.head _))
        have hup := newer_up (stays_refl s.heap) hSh
        refine hQ r _ ml mv' p (M ++ M') km' h' tk' (.of_stays Fx.keep) (newer_iff.mpr ⟨nr.2.2, nr.1⟩) ⟨pa, ps, rfl, hup _ _ (newer_up (stays_refl _) uSS _ _ hpa), hps⟩ (newer_iff.mpr ⟨nl.2.2, nl.1⟩) (hM'.up hup) ?_
        have := hdn _ _ hD
        rwa [List.append_nil] at this
      cases hv' with
      | leaf =>
        clear N2
        k_steps
        rename Fr _ _ _ _ => F9
        rename News _ _ _ _ => N9
        refine fin _ _ _ [] [] mv km F9 _ S (News.sub N9 (fun q hq => ?_)) uS (stays_refl _) (by rw [List.append_nil]; exact hM) rfl .leaf
        rcases List.mem_cons.mp hq with rfl | hq
        · exact .head _
        · rcases List.mem_cons.mp hq with rfl | hq
          · exact .tail _ (.head _)
          · exact .tail _ (.tail _ (.tail _ hq))
      | node ha hl hlen hch =>
        rename_i ad l lab t k items ds
        have hT : IsTup s.heap ad #[.str lab t, .ref l] := ⟨_, ha, rfl, _, rfl⟩
        have hT2 : s.heap.IsTuple ad #[.str lab t, .ref l] := ⟨_, ha, rfl, _, rfl⟩
        have hS : s.heap.IsList l items.toArray := isList_at hl
        have hl1 := len_le_sizeL ds
        have hz := hsz'
        simp only [D.size] at hz
        clear N2
        k_steps
        rename Fr _ _ _ _ => F4
        rename News _ _ _ _ => N4
        have hz2 := hht
        simp only [D.ht] at hz2
        have hml2 : mv.length ≤ 99999 := by omega
        k_dflt refine' (Stop.mk (lleaves_ok (htL ds + 2) (.node lab ds) (by simp only [D.ht]; omega) X' T' F4.keep (show dp + 1 + (htL ds + 2) + 2 < recursionLimit by omega) (show un + 3 + 40 * (htL ds + 2) + 40 < cLine by omega) rfl ((DrawnAt.node ha hl hlen hch).up F4.keep) (by simp only [D.size]; omega) ?_))
        intro r ws kr h5 tk5 kp5 hr5 hg5 hws
        obtain ⟨F5, N5, nr5⟩ := fresh_call F4 N4 kp5 hr5 hg5
        clear F4 N4
        have nlr := neN (nr5 _ (.head _))
        have npr := neN (nr5 _ (.tail _ (.head _)))
        dsimp only at nlr npr
        (try dsimp only)
        k_steps
        refine Stop.mk (wpAny_For ?_)
        k_steps
        rename Fr _ _ _ _ => F6
        rename News _ _ _ _ => N6
        rename IsRange _ _ _ _ _ _ _ _ => hR
        rename r < _ ∧ _ => l6
        obtain ⟨Dm, hDm⟩ := head_name N6
        dsimp only at hDm
        subst hDm
        have nD := N6 _ (.head _)
        have nr := N6 _ (.tail _ (.head _))
        obtain ⟨S', N7, v1, v2, o1, o2, o3, o4⟩ := refreeze [(ml, _)] F6 N6 (fun q hq => by rw [List.mem_singleton.mp hq]; exact .tail _ (.tail _ (.head _))) (fun q hq => .tail _ (.tail _ (.tail _ (.tail _ hq)))) uS sL (fun q hq => by rw [List.mem_singleton.mp hq]; exact sM)
        have oM := o2 _ (.head _)
        dsimp only at oM
        have hM' : Mets (newer s.heap S') (mv ++ [Value.ref Dm]) (M ++ [.node lab ds]) := (hM.up (newer_up (stays_refl _) v2)).snoc
          ⟨_, r, lab, ds, t, ws, kr, rfl, rfl, newer_iff.mpr ⟨nD.2.2, o3 _ _ nD.1 nD.2.1 (fun q hq e => by rw [List.mem_singleton.mp hq] at e; exact absurd e (Nat.ne_of_lt l6.2.1))⟩,
            newer_iff.mpr ⟨nr.2.2, o3 _ _ nr.1 nr.2.1 (fun q hq e => by rw [List.mem_singleton.mp hq] at e; exact nlr e)⟩, hws⟩
        have hpa' := newer_up (stays_refl s.heap) v2 _ _ hpa
        have hrs : Builtin.Range.rangeSize 0 (items.length : Int) 1 = (items.length : Int) := by rw [rangeSize_one]; split <;> omega
        have hsm : Builtin.Range.small 0 (items.length : Int) 1 = true := small_one (by omega) (by omega) (by omega) (by omega)
        clear N6 hM
        k_dflt refine' (Stop.mk (forRange F6 N7 rfl hR hsm hrs rfl rfl
          (fun i mm cs => mm (Str.ofString "place") = some (Value.ref pa) ∧ mm (Str.ofString "met") = some (Value.ref ml) ∧ mm (Str.ofString "part") = some (Value.ref ad) ∧ mm (Str.ofString "stretch") = some (Value.ref st) ∧
            (∃ t, mm (Str.ofString "low") = some (lowV (lowF a b 0 none (ds.take i)) t)) ∧ cs = (ml, W.listOf (mv ++ [Value.ref Dm]).toArray (km + 1)) :: frz s.heap S')
          ⟨rfl, rfl, rfl, rfl, ⟨0, rfl⟩, rfl⟩ ?_ ?_))
        · rintro i t' mm2 cs h7 tk7 I oI hi ⟨m1, m2, m3, m4, ⟨tl, m5⟩, rfl⟩ hcI F8 N8
          rw [over5 m1 m2 m3 m4 m5, show (0 : Int) + (i : Int) * 1 = (i : Int) by omega] at F8
          replace F8 : Fr s.heap L' h7 _ := F8
          replace N8 : News s.heap L' h7 _ := N8
          clear F6 N7
          have nmI := neN (hcI _ (.head _))
          dsimp only at nmI
          obtain ⟨vq, hvq⟩ : ∃ v, items[i]? = some v := ⟨items[i]'(by omega), List.getElem?_eq_getElem (by omega)⟩
          obtain ⟨dq, hdq⟩ : ∃ v, ds[i]? = some v := ⟨ds[i]'(by omega), List.getElem?_eq_getElem (by omega)⟩
          have htq := hch _ vq dq hvq hdq
          have hd2 : dq.ht ≤ htL ds := ht_le (List.mem_of_getElem? hdq)
          have hs2 : dq.size ≤ sizeL ds := size_lt (List.mem_of_getElem? hdq)
          refine absP fun P9 hP9 => ?_
          k_steps
          k_dflt refine' (Stop.mk (lleaves_ok (htL ds + 1) dq (by omega) X' T' F8.keep (show dp + 1 + (htL ds + 1) + 2 < recursionLimit by omega) (show un + 3 + 40 * (htL ds + 1) + 40 < cLine by omega) rfl (htq.up F8.keep) (by omega) ?_))
          intro r2 ws2 kr2 h9 tk9 kp9 hr9 hg9 hws2
          obtain ⟨F9, N9, nr9⟩ := fresh_call F8 N8 kp9 hr9 hg9
          clear F8 N8
          (try dsimp only)
          k_steps
          · rename Fr _ _ _ _ => Fx
            rename News _ _ _ _ => Nx
            rename a ∈ dq.leaves => ha1
            rename b ∈ dq.leaves => hb1
            refine hP9 _ _ ?_
            show Stop _
            refine Stop.mk ⟨_, _, _, (ml, _) :: frz s.heap S', rfl, Fx, News.sub Nx (fun q hq => .tail _ hq), hcI, rfl, rfl, rfl, rfl, ⟨t', ?_⟩, rfl⟩
            have e : lowF a b 0 none (ds.take (i + 1)) = some i := by
              rw [take_snoc hdq, lowF_snoc, if_pos (show a ∈ dq.leaves ∧ b ∈ dq.leaves from ⟨ha1, hb1⟩), List.length_take, Nat.zero_add, Nat.min_eq_left (by omega)]
            rw [e]
            rfl
          · rename Fr _ _ _ _ => Fx
            rename News _ _ _ _ => Nx
            rename ¬ b ∈ dq.leaves => hb1
            refine hP9 _ _ ?_
            show Stop _
            refine Stop.mk ⟨_, _, _, (ml, _) :: frz s.heap S', rfl, Fx, News.sub Nx (fun q hq => .tail _ hq), hcI, rfl, rfl, rfl, rfl, ⟨tl, ?_⟩, rfl⟩
            have e : lowF a b 0 none (ds.take (i + 1)) = lowF a b 0 none (ds.take i) := by
              rw [take_snoc hdq, lowF_snoc, if_neg (fun q : a ∈ dq.leaves ∧ b ∈ dq.leaves => hb1 q.2)]
            rw [e]
            rfl
          · rename Fr _ _ _ _ => Fx
            rename News _ _ _ _ => Nx
            rename ¬ a ∈ dq.leaves => hb1
            refine hP9 _ _ ?_
            show Stop _
            refine Stop.mk ⟨_, _, _, (ml, _) :: frz s.heap S', rfl, Fx, News.sub Nx (fun q hq => .tail _ hq), hcI, rfl, rfl, rfl, rfl, ⟨tl, ?_⟩, rfl⟩
            have e : lowF a b 0 none (ds.take (i + 1)) = lowF a b 0 none (ds.take i) := by
              rw [take_snoc hdq, lowF_snoc, if_neg (fun q : a ∈ dq.leaves ∧ b ∈ dq.leaves => hb1 q.1)]
            rw [e]
            rfl
        · rintro mm2 cs h7 tk7 ⟨m1, m2, m3, m4, ⟨tl, m5⟩, rfl⟩ F8 N8
          rw [hlen, List.take_length] at m5
          cases hlow : lowF a b 0 none ds with
          | none =>
            rw [hlow] at m5
            rw [over5 m1 m2 m3 m4 m5] at F8
            replace F8 : Fr s.heap L' h7 _ := F8
            replace N8 : News s.heap L' h7 _ := N8
            (try dsimp only [lowV] at F8)
            (try dsimp only)
            k_steps
            rename Fr _ _ _ _ => Fx
            rename News _ _ _ _ => Nx
            exact fin _ _ _ [] [.node lab ds] _ (km + 1) Fx _ S' Nx v1 v2 hM' rfl (.stop hlow)
          | some kk =>
            rw [hlow] at m5
            rw [over5 m1 m2 m3 m4 m5] at F8
            replace F8 : Fr s.heap L' h7 _ := F8
            replace N8 : News s.heap L' h7 ((ml, _) :: frz s.heap S') := N8
            have N9 : News s.heap L' h7 ((ml, W.listOf (mv ++ [Value.ref Dm]).toArray (km + 1)) :: (pa, tupO ps.toArray) :: frz s.heap S') := fun q hq => by
              rcases List.mem_cons.mp hq with rfl | hq
              · exact N8 _ (.head _)
              · rcases List.mem_cons.mp hq with rfl | hq
                · exact N8 _ (.tail _ (mem_frz.mpr (newer_iff.mp hpa')))
                · exact N8 _ (.tail _ hq)
            clear N8
            rcases lowF_some ds 0 none hlow with q | ⟨_, dq, hdq, _⟩
            · cases q
            rw [Nat.sub_zero] at hdq
            obtain ⟨vq, hvq⟩ : ∃ v, items[kk]? = some v := by
              have := (List.getElem?_eq_some_iff.mp hdq).1
              exact ⟨items[kk]'(by omega), List.getElem?_eq_getElem (by omega)⟩
            have htq := hch _ vq dq hvq hdq
            have hd2 : dq.ht ≤ htL ds := ht_le (List.mem_of_getElem? hdq)
            have hs2 : dq.size ≤ sizeL ds := size_lt (List.mem_of_getElem? hdq)
            have hpl2 := numsP_length hps
            (try dsimp only [lowV] at F8)
            (try dsimp only)
            k_steps
            rename Fr _ _ _ _ => Fx
            rename News _ _ _ _ => Nx
            rename ml < _ ∧ _ => lx
            k_dflt refine' (Stop.mk (add_path Fx Nx (.tail _ (.tail _ (.head _))) (.head _) hps (.cons _ _ .nil) (List.cons_ne_nil _ _) (by simp only [List.length_cons, List.length_nil, D.size] at hpl ⊢; omega) ?_))
            intro r3 h12 ys F12 N12 hys hr
            clear Fx Nx
            have nmr := neN (show ml ≠ r3 from by
              rcases hr with q | hr
              · rw [q]; exact Nat.ne_of_lt lx.1
              · exact hr (ml, _) (.tail _ (.head _)))
            k_steps
            rename Fr _ _ _ _ => Fy
            rename News _ _ _ _ => Ny
            have nr3 := Ny _ (.head _)
            obtain ⟨S'', Nz, w1, w2, p1, p2, p3, p4⟩ := refreeze [(ml, _)] Fy Ny (fun q hq => by rw [List.mem_singleton.mp hq]; exact .tail _ (.tail _ (.head _))) (fun q hq => .tail _ (.tail _ (.tail _ (.tail _ hq)))) v1 o1 (fun q hq => by rw [List.mem_singleton.mp hq]; exact oM)
            have oM2 := p2 _ (.head _)
            dsimp only at oM2
            refine Stop.mk ⟨dq.size, _, _, _, _, by simp only [D.size]; omega, rfl, Fy, Nz, S'', mv ++ [Value.ref Dm], dq, p ++ [kk], M ++ [.node lab ds], vq, .ref r3, ml, km + 1, rfl, rfl, rfl, rfl, rfl, w1, p1, oM2,
              ⟨r3, ys, rfl, newer_iff.mpr ⟨nr3.2.2, p3 _ _ nr3.1 nr3.2.1 (fun q hq e => by rw [List.mem_singleton.mp hq] at e; exact absurd e nmr)⟩, by simpa [numsP] using hys⟩, hM'.up (newer_up (stays_refl _) w2), htq, ?_, ?_, ?_, ?_, fun p' M' hD => ?_, rfl⟩
            · omega
            · omega
            · simp only [D.size] at hpl; rw [List.length_append, List.length_singleton]; omega
            · simp only [D.size] at hml; rw [List.length_append, List.length_singleton]; omega
            · have := hdn _ _ (.go hlow hdq hD)
              simpa using this
end
end CDWa
theorem down_ok {w : World} (d : D) {A : Around} {s : Shared} {B : Heap} {mean : ExcName → Option Value} {mg mb : Str → Option Value} {v : Value} {st : Addr} {xs : List Value} {a b : Nat} {ta tb : Tok} {Q E : Value → Shared → Prop}
    (X : (hd.heap_1 w.params).In B) (T : TopH mean mg mb B) (U : B.StaysIn s.heap) (hd1 : A.depth + d.ht + 20 < recursionLimit) (hu : A.units + 40 * d.ht + 200 < cLine) (hh : A.handled = none) (hv : DrawnAt s.heap v d) (hsz : d.size ≤ 9000)
    (hst : s.heap.IsList st xs.toArray) (hx0 : xs[0]? = some (.str (wordStr a) ta)) (hxl : xs.getLast? = some (.str (wordStr b) tb)) (hxz : xs.length ≤ 9999)
    (hQ : ∀ r pl ml mv p M k h' tk', Kp [] s.heap h' → (newer s.heap h').get? r = some (tupO #[pl, .ref ml]) → PathAt (newer s.heap h') pl p → (newer s.heap h').get? ml = some (W.listOf mv.toArray k) → Mets (newer s.heap h') mv M → Down a b d p M → Q (.ref r) { s with heap := h', toks := tk' }) :
    wpAny (model prog w) A (call (.ref 187) [v, .ref st]) Q E s := by
  obtain ⟨hnd, dp, fr, gd, un⟩ := A
  obtain rfl : hnd = none := hh
  have h : ∀ t, CDWa.Pp t := epsAll (nePair neWorld (nePair neD (nePair neShared (nePair (⟨default⟩ : Nonempty (Heap)) (nePair (⟨default⟩ : Nonempty (ExcName → Option Value)) (nePair (⟨default⟩ : Nonempty (Str → Option Value)) (nePair (⟨default⟩ : Nonempty (Str → Option Value)) (nePair (⟨default⟩ : Nonempty (Value)) (nePair (⟨default⟩ : Nonempty (Addr)) (nePair (⟨default⟩ : Nonempty (List Value)) (nePair (⟨default⟩ : Nonempty (Nat)) (nePair (⟨default⟩ : Nonempty (Nat)) (nePair (⟨default⟩ : Nonempty (Tok)) (nePair (⟨default⟩ : Nonempty (Tok)) (nePair (⟨default⟩ : Nonempty (Value → Shared → Prop)) (nePair (⟨default⟩ : Nonempty (Value → Shared → Prop)) (nePair (⟨default⟩ : Nonempty (Nat)) (nePair (⟨default⟩ : Nonempty (Option (List Env))) (nePair (⟨default⟩ : Nonempty (Option (List Code))) (⟨default⟩ : Nonempty (Nat))))))))))))))))))))) CDWa.Pp CDWa.core
  exact h ⟨w, d, s, B, mean, mg, mb, v, st, xs, a, b, ta, tb, Q, E, dp, fr, gd, un⟩ X T U hd1 hu hv hsz hst hx0 hxl hxz hQ
end
end
theorem tup_up {g h : Heap} {L a : Addr} {m : Str → Option Value} {items : Array Value} (F : Fr g L h m) (t : IsTup g a items) : IsTup h a items := let ⟨o, ho, r⟩ := t; ⟨o, F.keep _ _ ho, r⟩
section
local macro_rules | `(tactic| walk_at "subscriptTail") => `(tactic| (k_here; (with_reducible show wpAny _ _ (subscriptTail _ (Expr.Name _ _) (Value.ref _) (Value.int _ _)) _ _ _); (k_dflt refine' itemT_H ?k1 ?k2 ?k3 ?_ ?k4 ?k5; (case k1 => first | kun_tup | exact tup_up (by k_asm) (by assumption)); (case k2 => assumption); (case k3 => first | assumption | omega); (case k4 => with_unfolding_all rfl); (case k5 => (intro _; with_unfolding_all rfl)); k_whole)))
local macro_rules | `(tactic| walk_at "call builtin:len") => `(tactic| (k_here; (with_reducible show wpAny _ _ (call (Value.builtin "len") [Value.ref _]) _ _ _); (k_dflt refine' lenT_H ?k1 ?k2 ?_; (case k1 => first | kun_tup | exact tup_up (by k_asm) (by assumption)); (case k2 => first | assumption | omega); k_whole)))
local macro_rules | `(tactic| walk_at "subscriptTail Name Slice ref ref") => `(tactic| (k_here; (with_reducible show wpAny _ _ (subscriptTail _ (PySem.Expr.Slice none (some _) none _) (Value.ref _) (Value.ref _)) _ _ _); k_dflt (refine' slice_to ?F ?N ?m ?a ?z ?_ ?s ?t; (case F => k_asm); (case N => k_asm); (case m => k_mem); (case a => first | omega | assumption); (case z => first | assumption | omega); (case s => with_unfolding_all rfl); (case t => (intro _; with_unfolding_all rfl)); k_whole); intro _ _ F' N'))
local macro_rules | `(tactic| walk_at "subscriptTail") => `(tactic| (k_here; (with_reducible show wpAny _ _ (subscriptTail _ (Expr.Constant _ _ _) (Value.ref _) (Value.int 0 _)) _ _ _); (k_dflt refine' item0_H ?k1 ?k2 ?_ ?k4 ?k5; (case k1 => is_list); (case k2 => with_reducible assumption); (case k4 => with_unfolding_all rfl); (case k5 => (intro _; with_unfolding_all rfl)); k_whole)))
local macro_rules | `(tactic| walk_at "subscriptTail") => `(tactic| (k_here; (with_reducible show wpAny _ _ (subscriptTail _ (Expr.UnaryOp _ _ _) (Value.ref _) (Value.int _ _)) _ _ _); (k_dflt refine' itemM_H ?k1 ?k2 ?k3 ?_ ?k4 ?k5; (case k1 => is_list); (case k2 => with_reducible assumption); (case k3 => first | assumption | omega); (case k4 => with_unfolding_all rfl); (case k5 => (intro _; with_unfolding_all rfl)); k_whole)))
local macro_rules | `(tactic| walk_at "compareOp In str ref") => `(tactic| (k_here; (with_reducible show wpAny _ _ (compareOp CmpOp.In (Value.str _ _) (Value.ref _)) _ _ _); (k_dflt refine' in_H ?k1 ?k2 ?_; (case k1 => is_list); (case k2 => assumption); k_whole)))
theorem kit_up {g h : Heap} {L a : Addr} {m : Str → Option Value} {items : Array Value} (F : Fr g L h m) (t : IsTup g a items) : KitAt a "tuple" h := let ⟨o, ho, r⟩ := t; ⟨o, F.keep _ _ ho, r.1⟩
section
local macro_rules | `(tactic| walk_at "call builtin:isinstance") => `(tactic| (k_here; (with_reducible show wpAny _ _ (call _ [Value.ref _, Value.ref _]) _ _ _); k_dflt (refine' kia_tup kitx_tuple ?X ?c ?p ?ee ?nb ?_; (case c => exact kit_up (by k_asm) (by assumption)); (case X => k_in); (case p => kit_tp); (case ee => kit_is); (case nb => kit_nb); k_whole; intro _)))
section
local macro_rules | `(tactic| walk_at "subscriptTail Name Slice ref ref") => `(tactic| (k_here; refine stop ?_))
local macro_rules | `(tactic| walk_at "ite") => `(tactic| (k_here; first | (with_reducible refine ieq_yes (by omega) ?_) | (with_reducible refine ieq_no (by omega) ?_) | (with_reducible refine ine_yes (by omega) ?_) | (with_reducible refine ine_no (by omega) ?_)))
local macro_rules | `(tactic| walk_at "subscriptTail") => `(tactic| (k_here; (with_reducible show wpAny _ _ (subscriptTail _ (Expr.Constant _ _ _) (Value.ref _) (Value.int 0 _)) _ _ _); (k_dflt refine' item0T_H ?k1 ?k2 ?_ ?k4 ?k5; (case k1 => first | kun_tup | exact tup_up (by k_asm) (by assumption)); (case k2 => with_reducible assumption); (case k4 => with_unfolding_all rfl); (case k5 => (intro _; with_unfolding_all rfl)); k_whole)))
/-- the part at a place -/
def sub : D → List Nat → Option D
  | d, [] => some d
  | .leaf _, _ :: _ => none
  | .node _ ds, k :: p => match ds[k]? with
    | some d => sub d p
    | none => none
theorem gettup_ok {w : World} : ∀ (p : List Nat) (d e : D) {A : Around} {s : Shared} {B : Heap} {mean : ExcName → Option Value} {mg mb : Str → Option Value} {x ia : Addr} {xs : List Value} {T0 : Heap} {Q E : Value → Shared → Prop},
    (hd.heap_1 w.params).In B → TopH mean mg mb B → B.StaysIn s.heap → A.depth + 2 * p.length + 20 < recursionLimit → A.units + 40 * p.length + 200 < cLine → A.handled = none → T0.StaysIn s.heap → TreeAt w T0 (.ref x) d → d.size ≤ 9000 →
    s.heap.get? ia = some (tupO xs.toArray) → IntsAre xs (numsP p) → p.length ≤ 9000 → sub d p = some e → 
    (∀ v h' tk', Kp [] s.heap h' → TreeAt w T0 v e → Q v { s with heap := h', toks := tk' }) →
    wpAny (model prog w) A (call (.ref 57) [.ref x, .ref ia]) Q E s := by
  intro p
  induction p with
  | nil =>
    intro d e A s B mean mg mb x ia xs T0 Q E X T U hd1 hu hh hT0 ht hsz hia hxs hpl he hQ
    obtain ⟨hnd, dp, fr, gd, un⟩ := A
    obtain rfl : hnd = none := hh
    replace hd1 : dp + 2 * 0 + 20 < recursionLimit := hd1
    replace hu : un + 40 * 0 + 200 < cLine := hu
    refine wpAny_call ?_
    k_dflt (refine' enter (binds := [(Str.ofString "self", .ref x), (Str.ofString "index", .ref ia)]) [] X T U ?hW ?k6 ?k7 ?k8 ?k9 ?kB ?_ ?c2 ?c3 ?c4 ?c5; (case k6 => k_is); (case k7 => k_is); (case k8 => (show dp < recursionLimit; omega)); (case k9 => first | exact BindsTo.of_eq rfl | exact binds_K (X.keeps U) rfl (by k_is) rfl rfl rfl); (case c5 => decide); (case kB => exact locs rfl); (case c2 => exact rfl); (case c3 => exact rfl); (case c4 => exact rfl))
    · exact fun _ h => nomatch h
    · intro g L' h₁ hg st F N X' T' up
      obtain rfl : g = s.heap := hg
      (try dsimp only)
      k_fold
      have hT : IsTup s.heap ia xs.toArray := ⟨_, hia, rfl, _, rfl⟩
      have hT2 : s.heap.IsTuple ia xs.toArray := ⟨_, hia, rfl, _, rfl⟩
      have hlx := numsP_length hxs
      rw [List.length_nil] at hlx
      k_steps
      rename Fr _ _ _ _ => F1
      rw [sub] at he
      cases he
      exact hQ _ _ _ (.of_stays F1.keep) ht
  | cons k p IH =>
    intro d e A s B mean mg mb x ia xs T0 Q E X T U hd1 hu hh hT0 ht hsz hia hxs hpl he hQ
    obtain ⟨hnd, dp, fr, gd, un⟩ := A
    obtain rfl : hnd = none := hh
    replace hd1 : dp + 2 * (p.length + 1) + 20 < recursionLimit := hd1
    replace hu : un + 40 * (p.length + 1) + 200 < cLine := hu
    cases ht with
    | node hx hdx hc hlen hch =>
    rename_i dx c lab t1 t2 t3 kc items ds
    replace hx := hT0 _ _ hx
    replace hdx := hT0 _ _ hdx
    replace hc := hT0 _ _ hc
    refine wpAny_call ?_
    k_dflt (refine' enter (binds := [(Str.ofString "self", .ref x), (Str.ofString "index", .ref ia)]) [] X T U ?hW2 ?j6 ?j7 ?j8 ?j9 ?jB ?_ ?d2 ?d3 ?d4 ?d5; (case j6 => k_is); (case j7 => k_is); (case j8 => (show dp < recursionLimit; omega)); (case j9 => first | exact BindsTo.of_eq rfl | exact binds_K (X.keeps U) rfl (by k_is) rfl rfl rfl); (case d5 => decide); (case jB => exact locs rfl); (case d2 => exact rfl); (case d3 => exact rfl); (case d4 => exact rfl))
    · exact fun _ h => nomatch h
    · intro g L' h₁ hg st F N X' T' up
      obtain rfl : g = s.heap := hg
      (try dsimp only)
      k_fold
      rw [sub] at he
      obtain ⟨dk, hdk, hek⟩ : ∃ dk, ds[k]? = some dk ∧ sub dk p = some e := by
        cases q : ds[k]? with
        | none => rw [q] at he; cases he
        | some dk => rw [q] at he; exact ⟨dk, rfl, he⟩
      obtain ⟨vk, hvk⟩ : ∃ v, items[k]? = some v := by
        have := (List.getElem?_eq_some_iff.mp hdk).1
        exact ⟨items[k]'(by omega), List.getElem?_eq_getElem (by omega)⟩
      have htk := hch _ vk dk hvk hdk
      have hT : IsTup s.heap ia xs.toArray := ⟨_, hia, rfl, _, rfl⟩
      have hT2 : s.heap.IsTuple ia xs.toArray := ⟨_, hia, rfl, _, rfl⟩
      have hlx := numsP_length hxs
      rw [List.length_cons] at hlx hpl
      obtain ⟨t0, hx0⟩ := numsP_get hxs (i := 0) (k := k) rfl
      have hl2 := len_le_sizeL ds
      simp only [D.size] at hsz
      cases p with
      | nil =>
        rw [sub] at hek
        cases hek
        replace hlx : xs.length = 1 := hlx
        k_steps
        rename Fr _ _ _ _ => F1
        k_dflt refine' (Stop.mk (getint_ok X' T' F1.keep (show dp + 1 + 10 < recursionLimit by omega) (show un + 3 + 1 + 80 < cLine by omega) rfl (F1.keep _ _ hx) (F1.keep _ _ hdx) (F1.keep _ _ hc) hvk (by omega) ?_))
        intro h5 tk5 kp5
        exact hQ _ _ _ (Kp.trans (.of_stays F1.keep) kp5) htk
      | cons k2 p =>
        replace hlx : xs.length = p.length + 2 := hlx
        replace hpl : p.length + 2 ≤ 9000 := hpl
        replace hd1 : dp + 2 * (p.length + 2) + 20 < recursionLimit := hd1
        replace hu : un + 40 * (p.length + 2) + 200 < cLine := hu
        k_steps
        rename Fr _ _ _ _ => F1
        rename News _ _ _ _ => N1
        have htk' := htk
        cases htk with
        | leaf => cases hek
        | node hx' hdx' hc' hlen' hch' =>
        rename_i x' dx' c' lab' t1' t2' t3' kc' items' ds'
        replace hx' := hT0 _ _ hx'
        replace hdx' := hT0 _ _ hdx'
        replace hc' := hT0 _ _ hc'
        k_dflt refine' (Stop.mk (getint_ok X' T' F1.keep (show dp + 1 + 10 < recursionLimit by omega) (show un + 3 + 1 + 80 < cLine by omega) rfl (F1.keep _ _ hx) (F1.keep _ _ hdx) (F1.keep _ _ hc) hvk (by omega) ?_))
        intro h5 tk5 kp5
        obtain ⟨F5, N5⟩ := pure_call F1 N1 kp5
        clear F1 N1
        (try dsimp only)
        k_steps
        k_dflt (refine' (Stop.mk (slice_tuple_from (a := 1) ?F ?N ?t ?h1 ?ha ?_ ?hs ?hg ?hz)); (case F => k_asm); (case N => k_asm); (case t => exact tup_up (by k_asm) (by assumption)); (case h1 => exact Nat.le_refl 1); (case ha => (rw [List.size_toArray]; omega)); (case hs => with_unfolding_all rfl); (case hg => (intro _; with_unfolding_all rfl)); (case hz => (rw [List.size_toArray, sizeLine_eq]; omega)))
        intro h6 F6 N6
        k_steps
        rename Fr _ _ _ _ => F7
        rename News _ _ _ _ => N7
        have hxs' : IntsAre (xs.drop 1) (numsP (k2 :: p)) := by
          cases hxs with
          | cons _ _ h => exact h
        have hs2 : D.size _ ≤ _ := size_lt (List.mem_of_getElem? hdk)
        k_dflt refine' (Stop.mk (IH (.node lab' ds') e X' T' F7.keep (show dp + 1 + 2 * (p.length + 1) + 20 < recursionLimit by omega) (show un + 3 + 1 + 40 * (p.length + 1) + 200 < cLine by omega) rfl (stays_trans hT0 F7.keep) htk' (by omega) (N7 _ (.head _)).1 hxs' (show p.length + 1 ≤ 9000 by omega) hek ?_))
        intro v h9 tk9 kp9 hv9
        exact hQ _ _ _ (Kp.trans (.of_stays F7.keep) kp9) hv9
namespace CWW
noncomputable section
abbrev Tup : Type := (World) × (D) × (D) × (List Nat) × (Shared) × (Heap) × (ExcName → Option Value) × (Str → Option Value) × (Str → Option Value) × (Addr) × (Addr) × (List Value) × (Heap) × (Value → Shared → Prop) × (Value → Shared → Prop) × (Nat) × (Option (List Env)) × (Option (List Code)) × (Nat)
def Pp : Tup → Prop := fun tt9 => (fun (w : World) (d : D) (e : D) (p : List Nat) (s : Shared) (B : Heap) (mean : ExcName → Option Value) (mg : Str → Option Value) (mb : Str → Option Value) (x : Addr) (ia : Addr) (xs : List Value) (T0 : Heap) (Q : Value → Shared → Prop) (E : Value → Shared → Prop) (dp : Nat) (fr : Option (List Env)) (gd : Option (List Code)) (un : Nat) => ∀ (X : (hd.heap_1 w.params).In B) (T : TopH mean mg mb B) (U : B.StaysIn s.heap) (hd1 : (⟨none, dp, fr, gd, un⟩ : Around).depth + 2 * p.length + d.ht + 30 < recursionLimit) (hu : (⟨none, dp, fr, gd, un⟩ : Around).units + 40 * p.length + 40 * d.ht + 300 < cLine) (hT0 : T0.StaysIn s.heap) (ht : TreeAt w T0 (.ref x) d) (hsz : d.size ≤ 9000) (hia : s.heap.get? ia = some (tupO xs.toArray)) (hxs : IntsAre xs (numsP p)) (hpl : p.length ≤ 9000) (he : sub d p = some e) (heh : e.ht ≤ d.ht) (hes : e.size ≤ d.size) (hQ : ∀ r vs k h' tk', Kp [] s.heap h' → s.heap.get? r = none → h'.get? r = some (W.listOf vs.toArray k) → Words vs e.leaves → Q (.ref r) { s with heap := h', toks := tk' }), wpAny (model prog w) (⟨none, dp, fr, gd, un⟩ : Around) (call (.ref 194) [.ref x, .ref ia]) Q E s) tt9.1 tt9.2.1 tt9.2.2.1 tt9.2.2.2.1 tt9.2.2.2.2.1 tt9.2.2.2.2.2.1 tt9.2.2.2.2.2.2.1 tt9.2.2.2.2.2.2.2.1 tt9.2.2.2.2.2.2.2.2.1 tt9.2.2.2.2.2.2.2.2.2.1 tt9.2.2.2.2.2.2.2.2.2.2.1 tt9.2.2.2.2.2.2.2.2.2.2.2.1 tt9.2.2.2.2.2.2.2.2.2.2.2.2.1 tt9.2.2.2.2.2.2.2.2.2.2.2.2.2.1 tt9.2.2.2.2.2.2.2.2.2.2.2.2.2.2.1 tt9.2.2.2.2.2.2.2.2.2.2.2.2.2.2.2.1 tt9.2.2.2.2.2.2.2.2.2.2.2.2.2.2.2.2.1 tt9.2.2.2.2.2.2.2.2.2.2.2.2.2.2.2.2.2.1 tt9.2.2.2.2.2.2.2.2.2.2.2.2.2.2.2.2.2.2
def cc : Tup := @Classical.epsilon Tup (nePair neWorld (nePair neD (nePair neD (nePair (⟨default⟩ : Nonempty (List Nat)) (nePair neShared (nePair (⟨default⟩ : Nonempty (Heap)) (nePair (⟨default⟩ : Nonempty (ExcName → Option Value)) (nePair (⟨default⟩ : Nonempty (Str → Option Value)) (nePair (⟨default⟩ : Nonempty (Str → Option Value)) (nePair (⟨default⟩ : Nonempty (Addr)) (nePair (⟨default⟩ : Nonempty (Addr)) (nePair (⟨default⟩ : Nonempty (List Value)) (nePair (⟨default⟩ : Nonempty (Heap)) (nePair (⟨default⟩ : Nonempty (Value → Shared → Prop)) (nePair (⟨default⟩ : Nonempty (Value → Shared → Prop)) (nePair (⟨default⟩ : Nonempty (Nat)) (nePair (⟨default⟩ : Nonempty (Option (List Env))) (nePair (⟨default⟩ : Nonempty (Option (List Code))) (⟨default⟩ : Nonempty (Nat)))))))))))))))))))) fun t => ¬ Pp t
def w : World := cc.1
def d : D := cc.2.1
def e : D := cc.2.2.1
def p : List Nat := cc.2.2.2.1
def s : Shared := cc.2.2.2.2.1
def B : Heap := cc.2.2.2.2.2.1
def mean : ExcName → Option Value := cc.2.2.2.2.2.2.1
def mg : Str → Option Value := cc.2.2.2.2.2.2.2.1
def mb : Str → Option Value := cc.2.2.2.2.2.2.2.2.1
def x : Addr := cc.2.2.2.2.2.2.2.2.2.1
def ia : Addr := cc.2.2.2.2.2.2.2.2.2.2.1
def xs : List Value := cc.2.2.2.2.2.2.2.2.2.2.2.1
def T0 : Heap := cc.2.2.2.2.2.2.2.2.2.2.2.2.1
def Q : Value → Shared → Prop := cc.2.2.2.2.2.2.2.2.2.2.2.2.2.1
def E : Value → Shared → Prop := cc.2.2.2.2.2.2.2.2.2.2.2.2.2.2.1
def dp : Nat := cc.2.2.2.2.2.2.2.2.2.2.2.2.2.2.2.1
def fr : Option (List Env) := cc.2.2.2.2.2.2.2.2.2.2.2.2.2.2.2.2.1
def gd : Option (List Code) := cc.2.2.2.2.2.2.2.2.2.2.2.2.2.2.2.2.2.1
def un : Nat := cc.2.2.2.2.2.2.2.2.2.2.2.2.2.2.2.2.2.2
def L' : Addr := s.heap.objs.size
theorem core (X : (hd.heap_1 w.params).In B) (T : TopH mean mg mb B) (U : B.StaysIn s.heap) (hd1 : (⟨none, dp, fr, gd, un⟩ : Around).depth + 2 * p.length + d.ht + 30 < recursionLimit) (hu : (⟨none, dp, fr, gd, un⟩ : Around).units + 40 * p.length + 40 * d.ht + 300 < cLine) (hT0 : T0.StaysIn s.heap) (ht : TreeAt w T0 (.ref x) d) (hsz : d.size ≤ 9000) (hia : s.heap.get? ia = some (tupO xs.toArray)) (hxs : IntsAre xs (numsP p)) (hpl : p.length ≤ 9000) (he : sub d p = some e) (heh : e.ht ≤ d.ht) (hes : e.size ≤ d.size) (hQ : ∀ r vs k h' tk', Kp [] s.heap h' → s.heap.get? r = none → h'.get? r = some (W.listOf vs.toArray k) → Words vs e.leaves → Q (.ref r) { s with heap := h', toks := tk' }) : wpAny (model prog w) (⟨none, dp, fr, gd, un⟩ : Around) (call (.ref 194) [.ref x, .ref ia]) Q E s := by
    replace hd1 : dp + 2 * p.length + d.ht + 30 < recursionLimit := hd1
    replace hu : un + 40 * p.length + 40 * d.ht + 300 < cLine := hu
    refine wpAny_call ?_
    k_dflt (refine' enter2 (L₀ := L') (binds := [(Str.ofString "tree", .ref x), (Str.ofString "place", .ref ia)]) [] X T U ?hW ?k6 ?k7 ?k8 ?k9 ?kB ?_ ?c2 ?c3 ?c4 ?c5; (case k6 => k_is); (case k7 => k_is); (case k8 => (show dp < recursionLimit; omega)); (case k9 => first | exact BindsTo.of_eq rfl | exact binds_K (X.keeps U) rfl (by k_is) rfl rfl rfl); (case c5 => decide); (case kB => exact locs rfl); (case c2 => exact rfl); (case c3 => exact rfl); (case c4 => exact rfl))
    · exact fun _ h => nomatch h
    · intro g h₁ hg st F N X' T' up
      obtain rfl : g = s.heap := hg
      (try dsimp only)
      k_fold
      have hx := (ht.up hT0).ex
      obtain ⟨dx, c, lab, t1, t2, t3, hx1, hx2⟩ := hx
      k_steps
      rename Fr _ _ _ _ => F1
      rename News _ _ _ _ => N1
      k_dflt refine' (Stop.mk (gettup_ok p d e X' T' F1.keep (show dp + 1 + 2 * p.length + 20 < recursionLimit by omega) (show un + 3 + 1 + 40 * p.length + 200 < cLine by omega) rfl (stays_trans hT0 F1.keep) ht hsz (F1.keep _ _ hia) hxs hpl he ?_))
      intro v h5 tk5 kp5 hv
      obtain ⟨F5, N5⟩ := pure_call F1 N1 kp5
      clear F1 N1
      have hv' := hv
      generalize q2 : e = e2 at hv
      cases hv with
      | leaf =>
        (try dsimp only)
        k_steps
        rename Fr _ _ _ _ => F9
        rename News _ _ _ _ => N9
        have nr := N9 _ (.head _)
        exact hQ _ _ _ _ _ (.of_stays F9.keep) nr.2.2 nr.1 (by rw [q2]; exact Words.one _ _)
      | node hx' hdx' hc' hlen' hch' =>
        replace hx' := hT0 _ _ hx'
        replace hdx' := hT0 _ _ hdx'
        (try dsimp only)
        k_steps
        rename Fr _ _ _ _ => F9
        rename News _ _ _ _ => N9
        k_dflt refine' (Stop.mk (leaves_ok d.ht _ heh X' T' F9.keep (show dp + 1 + d.ht + 2 < recursionLimit by omega) (show un + 3 + 40 * d.ht + 40 < cLine by omega) rfl (hv'.up (stays_trans hT0 F9.keep)) (by omega) ?_))
        intro r vs kr h' tk' kp hr hget hw3
        refine hQ _ _ _ _ _ (Kp.trans (.of_stays F9.keep) kp) ?_ hget hw3
        cases q : s.heap.get? r with
        | none => rfl
        | some o => have := F9.keep _ _ q; rw [show _ = none from hr] at this; cases this
end
end CWW
theorem words_ok {w : World} (d e : D) (p : List Nat) {A : Around} {s : Shared} {B : Heap} {mean : ExcName → Option Value} {mg mb : Str → Option Value} {x ia : Addr} {xs : List Value} {T0 : Heap} {Q E : Value → Shared → Prop}
    (X : (hd.heap_1 w.params).In B) (T : TopH mean mg mb B) (U : B.StaysIn s.heap) (hd1 : A.depth + 2 * p.length + d.ht + 30 < recursionLimit) (hu : A.units + 40 * p.length + 40 * d.ht + 300 < cLine) (hh : A.handled = none) (hT0 : T0.StaysIn s.heap) (ht : TreeAt w T0 (.ref x) d) (hsz : d.size ≤ 9000)
    (hia : s.heap.get? ia = some (tupO xs.toArray)) (hxs : IntsAre xs (numsP p)) (hpl : p.length ≤ 9000) (he : sub d p = some e) (heh : e.ht ≤ d.ht) (hes : e.size ≤ d.size)
    (hQ : ∀ r vs k h' tk', Kp [] s.heap h' → s.heap.get? r = none → h'.get? r = some (W.listOf vs.toArray k) → Words vs e.leaves → Q (.ref r) { s with heap := h', toks := tk' }) :
    wpAny (model prog w) A (call (.ref 194) [.ref x, .ref ia]) Q E s := by
  obtain ⟨hnd, dp, fr, gd, un⟩ := A
  obtain rfl : hnd = none := hh
  have h : ∀ t, CWW.Pp t := epsAll (nePair neWorld (nePair neD (nePair neD (nePair (⟨default⟩ : Nonempty (List Nat)) (nePair neShared (nePair (⟨default⟩ : Nonempty (Heap)) (nePair (⟨default⟩ : Nonempty (ExcName → Option Value)) (nePair (⟨default⟩ : Nonempty (Str → Option Value)) (nePair (⟨default⟩ : Nonempty (Str → Option Value)) (nePair (⟨default⟩ : Nonempty (Addr)) (nePair (⟨default⟩ : Nonempty (Addr)) (nePair (⟨default⟩ : Nonempty (List Value)) (nePair (⟨default⟩ : Nonempty (Heap)) (nePair (⟨default⟩ : Nonempty (Value → Shared → Prop)) (nePair (⟨default⟩ : Nonempty (Value → Shared → Prop)) (nePair (⟨default⟩ : Nonempty (Nat)) (nePair (⟨default⟩ : Nonempty (Option (List Env))) (nePair (⟨default⟩ : Nonempty (Option (List Code))) (⟨default⟩ : Nonempty (Nat)))))))))))))))))))) CWW.Pp CWW.core
  exact h ⟨w, d, e, p, s, B, mean, mg, mb, x, ia, xs, T0, Q, E, dp, fr, gd, un⟩ X T U hd1 hu hT0 ht hsz hia hxs hpl he heh hes hQ
end
/-- the word w stands at the place p -/
inductive At : D → Nat → List Nat → Prop
  | leaf {i : Nat} : At (.leaf i) i []
  | node {lab : Str} {ds : List D} {k : Nat} {d : D} {w : Nat} {q : List Nat} : ds[k]? = some d → At d w q → At (.node lab ds) w (k :: q)
mutual
theorem at_of : ∀ (d : D) (i w : Nat) (p : List Nat), d.leaves[i]? = some w → d.paths[i]? = some p → At d w p
  | .leaf j, i, w, p, h1, h2 => by
    cases i with
    | zero => simp [D.leaves, D.paths] at h1 h2; subst h1; subst h2; exact .leaf
    | succ i => simp [D.leaves] at h1
  | .node lab ds, i, w, p, h1, h2 => by
    obtain ⟨j, d, q, e1, e2, e3⟩ := atL_of ds 0 i w p h1 h2
    subst e2
    rw [Nat.zero_add]
    exact .node e1 e3
theorem atL_of : ∀ (ds : List D) (k i w : Nat) (p : List Nat), (leavesL ds)[i]? = some w → (pathsL k ds)[i]? = some p → ∃ j d q, ds[j]? = some d ∧ p = (k + j) :: q ∧ At d w q
  | [], k, i, w, p, h1, h2 => by simp [leavesL] at h1
  | d :: r, k, i, w, p, h1, h2 => by
    rw [leavesL] at h1
    rw [pathsL] at h2
    by_cases hi : i < d.leaves.length
    · rw [List.getElem?_append_left hi] at h1
      rw [List.getElem?_append_left (by rw [List.length_map, paths_length]; exact hi), List.getElem?_map] at h2
      cases e : d.paths[i]? with
      | none => rw [e] at h2; cases h2
      | some q =>
        rw [e] at h2
        simp at h2
        exact ⟨0, d, q, rfl, by rw [← h2]; rfl, at_of d i w q h1 e⟩
    · rw [List.getElem?_append_right (by omega)] at h1
      rw [List.getElem?_append_right (by rw [List.length_map, paths_length]; omega), List.length_map, paths_length] at h2
      obtain ⟨j, d', q, e1, e2, e3⟩ := atL_of r (k + 1) _ w p h1 h2
      exact ⟨j + 1, d', q, by simpa using e1, by rw [e2]; congr 1; omega, e3⟩
end
theorem mem_leavesL {w : Nat} : ∀ {ds : List D}, w ∈ leavesL ds ↔ ∃ (k : Nat) (d : D), ds[k]? = some d ∧ w ∈ d.leaves
  | [] => by simp [leavesL]
  | d :: r => by
    rw [leavesL, List.mem_append, mem_leavesL]
    constructor
    · rintro (h | ⟨k, d', h1, h2⟩)
      · exact ⟨0, d, rfl, h⟩
      · exact ⟨k + 1, d', by simpa using h1, h2⟩
    · rintro ⟨k, d', h1, h2⟩
      cases k with
      | zero => simp at h1; subst h1; exact .inl h2
      | succ k => exact .inr ⟨k, d', by simpa using h1, h2⟩
theorem At.mem {d : D} {w : Nat} {p : List Nat} (h : At d w p) : w ∈ d.leaves := by
  induction h with
  | leaf => simp [D.leaves]
  | node h1 _ ih => rw [D.leaves]; exact mem_leavesL.mpr ⟨_, _, h1, ih⟩
theorem at_ex {d : D} {w : Nat} (h : w ∈ d.leaves) : ∃ p, At d w p := by
  obtain ⟨i, hi, e⟩ := List.mem_iff_getElem.mp h
  have hp : i < d.paths.length := by rw [paths_length]; exact hi
  exact ⟨_, at_of d i w _ (by rw [List.getElem?_eq_getElem hi, e]) (List.getElem?_eq_getElem hp)⟩
/-- in a row of parts where no word stands twice, a word stands in one part alone -/
theorem one_child {w : Nat} : ∀ {ds : List D}, (leavesL ds).Nodup → ∀ {j k : Nat} {d e : D}, ds[j]? = some d → ds[k]? = some e → w ∈ d.leaves → w ∈ e.leaves → j = k
  | [], _, j, k, d, e, h1, _, _, _ => by simp at h1
  | x :: r, hn, j, k, d, e, h1, h2, h3, h4 => by
    rw [leavesL, List.nodup_append] at hn
    cases j with
    | zero =>
      cases k with
      | zero => rfl
      | succ k =>
        simp at h1 h2
        subst h1
        exact absurd rfl (hn.2.2 w h3 w (mem_leavesL.mpr ⟨k, e, h2, h4⟩))
    | succ j =>
      cases k with
      | zero =>
        simp at h1 h2
        subst h2
        exact absurd rfl (hn.2.2 w h4 w (mem_leavesL.mpr ⟨j, d, h1, h3⟩))
      | succ k => exact congrArg (· + 1) (one_child (j := j) (k := k) (d := d) (e := e) hn.2.1 (by simpa using h1) (by simpa using h2) h3 h4)
theorem nodup_child {ds : List D} (hn : (leavesL ds).Nodup) {k : Nat} {d : D} (h : ds[k]? = some d) : d.leaves.Nodup := by
  induction ds generalizing k with
  | nil => simp at h
  | cons x r ih =>
    rw [leavesL, List.nodup_append] at hn
    cases k with
    | zero => simp at h; subst h; exact hn.1
    | succ k => exact ih hn.2.1 (by simpa using h)
theorem At.uniq {d : D} {w : Nat} {p q : List Nat} (hn : d.leaves.Nodup) (h : At d w p) (k : At d w q) : p = q := by
  induction h generalizing q with
  | leaf => cases k; rfl
  | node h1 h2 ih =>
    cases k with
    | node k1 k2 =>
      rw [D.leaves] at hn
      have e := one_child hn h1 k1 h2.mem k2.mem
      subst e
      rw [h1] at k1
      cases k1
      rw [ih (nodup_child hn h1) k2]
theorem lowF_none {a b : Nat} : ∀ {ds : List D} {k : Nat} {o : Option Nat}, lowF a b k o ds = none → ∀ d ∈ ds, ¬ (a ∈ d.leaves ∧ b ∈ d.leaves)
  | [], _, _, _, d, hd => by cases hd
  | x :: r, k, o, h, d, hd => by
    rw [lowF] at h
    rcases List.mem_cons.mp hd with rfl | hd
    · intro q
      rw [if_pos q] at h
      have : ∀ (ds : List D) (k : Nat) (i : Nat), lowF a b k (some i) ds ≠ none := by
        intro ds
        induction ds with
        | nil => intro k i; simp [lowF]
        | cons y s ih =>
          intro k i
          rw [lowF]
          split
          · exact ih _ _
          · exact ih _ _
      exact this _ _ _ h
    · exact lowF_none h d hd
theorem Down.lcp {a b : Nat} {d : D} {p : List Nat} {M : List D} (h : Down a b d p M) (hn : d.leaves.Nodup) {pa pb : List Nat} (ha : At d a pa) (hb : At d b pb) : p = lcp pa pb := by
  induction h generalizing pa pb with
  | leaf => cases ha; cases hb; rfl
  | stop hl =>
    rw [D.leaves] at hn
    cases ha with
    | node a1 a2 =>
      cases hb with
      | node b1 b2 =>
        rw [Mine.lcp, if_neg]
        intro e
        subst e
        rw [a1] at b1
        cases b1
        exact lowF_none hl _ (List.mem_of_getElem? a1) ⟨a2.mem, b2.mem⟩
  | go hl hd _ ih =>
    rw [D.leaves] at hn
    rcases lowF_some _ 0 none hl with q | ⟨_, d', hd', m1, m2⟩
    · cases q
    rw [Nat.sub_zero, hd] at hd'
    cases hd'
    cases ha with
    | node a1 a2 =>
      cases hb with
      | node b1 b2 =>
        have e1 := one_child hn a1 hd a2.mem m1
        have e2 := one_child hn b1 hd b2.mem m2
        subst e1; subst e2
        rw [hd] at a1 b1
        cases a1; cases b1
        rw [Mine.lcp, if_pos rfl, ih (nodup_child hn hd) a2 b2]
/-! the parts that hold both -/
def holds (a b : Nat) (e : D) : Bool := decide (a ∈ e.leaves) && decide (b ∈ e.leaves)
mutual
theorem subs_sub : ∀ (d e : D), e ∈ d.subs → ∀ w ∈ e.leaves, w ∈ d.leaves
  | .leaf _, e, h, w, _ => by simp [D.subs] at h
  | .node lab ds, e, h, w, hw => by
    rw [D.subs] at h
    rcases List.mem_cons.mp h with rfl | h
    · exact hw
    · rw [D.leaves]; exact subsL_sub ds e h w hw
theorem subsL_sub : ∀ (ds : List D) (e : D), e ∈ subsL ds → ∀ w ∈ e.leaves, w ∈ leavesL ds
  | [], e, h, w, _ => by simp [subsL] at h
  | d :: r, e, h, w, hw => by
    rw [subsL, List.mem_append] at h
    rw [leavesL, List.mem_append]
    rcases h with h | h
    · exact .inl (subs_sub d e h w hw)
    · exact .inr (subsL_sub r e h w hw)
end
theorem filter_none {a b : Nat} {ds : List D} (h : ∀ d ∈ ds, ¬ (a ∈ d.leaves ∧ b ∈ d.leaves)) : (subsL ds).filter (holds a b) = [] := by
  rw [List.filter_eq_nil_iff]
  induction ds with
  | nil => intro e he; simp [subsL] at he
  | cons d r ih =>
    intro e he
    rw [subsL, List.mem_append] at he
    rcases he with he | he
    · intro q
      simp only [holds, Bool.and_eq_true, decide_eq_true_eq] at q
      exact h d (.head _) ⟨subs_sub d e he a q.1, subs_sub d e he b q.2⟩
    · exact ih (fun d hd => h d (.tail _ hd)) e he
theorem filter_one {a b k : Nat} : ∀ {ds : List D} {d : D}, (leavesL ds).Nodup → ds[k]? = some d → a ∈ d.leaves → (subsL ds).filter (holds a b) = d.subs.filter (holds a b) := by
  intro ds
  induction ds generalizing k with
  | nil => intro d _ h; simp at h
  | cons x r ih =>
    intro d hn h ha
    rw [subsL, List.filter_append]
    have hn' := hn
    rw [leavesL, List.nodup_append] at hn'
    cases k with
    | zero =>
      simp at h
      subst h
      rw [filter_none, List.append_nil]
      intro e he q
      obtain ⟨j, hj⟩ := List.mem_iff_getElem?.mp he
      exact absurd rfl (hn'.2.2 a ha a (mem_leavesL.mpr ⟨j, e, hj, q.1⟩))
    | succ k =>
      have h' : r[k]? = some d := by simpa using h
      rw [ih hn'.2.1 h' ha, List.filter_eq_nil_iff.mpr, List.nil_append]
      intro e he q
      simp only [holds, Bool.and_eq_true, decide_eq_true_eq] at q
      exact absurd rfl (hn'.2.2 a (subs_sub x e he a q.1) a (mem_leavesL.mpr ⟨k, d, h', ha⟩))
theorem Down.met {a b : Nat} {d : D} {p : List Nat} {M : List D} (h : Down a b d p M) (hn : d.leaves.Nodup) (ha : a ∈ d.leaves) (hb : b ∈ d.leaves) : M = d.subs.filter (holds a b) := by
  induction h with
  | leaf => simp [D.subs]
  | stop hl =>
    rw [D.subs, List.filter_cons_of_pos (by simp [holds, ha, hb]), filter_none (lowF_none hl)]
  | go hl hd _ ih =>
    rcases lowF_some _ 0 none hl with q | ⟨_, d', hd', m1, m2⟩
    · cases q
    rw [Nat.sub_zero, hd] at hd'
    cases hd'
    rw [D.leaves] at hn
    rw [D.subs, List.filter_cons_of_pos (by simp [holds, ha, hb]), filter_one hn hd m1, ih (nodup_child hn hd) m1 m2]
/-! places: between two words -/
mutual
theorem conv : ∀ (d : D) (i j l : Nat) (p q r : List Nat), i ≤ j → j ≤ l → d.paths[i]? = some p → d.paths[j]? = some q → d.paths[l]? = some r → lcp p r <+: q
  | .leaf _, i, j, l, p, q, r, h1, h2, hp, hq, hr => by
    have : i = 0 := by
      have := (List.getElem?_eq_some_iff.mp hp).1
      simp [D.paths] at this; exact this
    subst this
    simp [D.paths] at hp
    subst hp
    exact List.nil_prefix
  | .node _ ds, i, j, l, p, q, r, h1, h2, hp, hq, hr => convL ds 0 i j l p q r h1 h2 hp hq hr
theorem convL : ∀ (ds : List D) (k i j l : Nat) (p q r : List Nat), i ≤ j → j ≤ l → (pathsL k ds)[i]? = some p → (pathsL k ds)[j]? = some q → (pathsL k ds)[l]? = some r → lcp p r <+: q
  | [], k, i, j, l, p, q, r, h1, h2, hp, hq, hr => by simp [pathsL] at hp
  | d :: s, k, i, j, l, p, q, r, h1, h2, hp, hq, hr => by
    rw [pathsL] at hp hq hr
    have hm : (d.paths.map (k :: ·)).length = d.paths.length := List.length_map _
    by_cases hl : l < d.paths.length
    · rw [List.getElem?_append_left (by omega), List.getElem?_map] at hp hq hr
      cases ep : d.paths[i]? with
      | none => rw [ep] at hp; cases hp
      | some p' =>
        cases eq : d.paths[j]? with
        | none => rw [eq] at hq; cases hq
        | some q' =>
          cases er : d.paths[l]? with
          | none => rw [er] at hr; cases hr
          | some r' =>
            rw [ep] at hp; rw [eq] at hq; rw [er] at hr
            simp at hp hq hr
            subst hp; subst hq; subst hr
            rw [lcp, if_pos rfl]
            exact List.cons_prefix_cons.mpr ⟨rfl, conv d i j l p' q' r' h1 h2 ep eq er⟩
    · by_cases hi : i < d.paths.length
      · rw [List.getElem?_append_left (by omega), List.getElem?_map] at hp
        rw [List.getElem?_append_right (by omega)] at hr
        cases ep : d.paths[i]? with
        | none => rw [ep] at hp; cases hp
        | some p' =>
          rw [ep] at hp
          simp at hp
          subst hp
          have hh : ∀ (s : List D) (k' n : Nat) (r : List Nat), (pathsL k' s)[n]? = some r → ∃ c t, r = c :: t ∧ k' ≤ c := by
            intro s
            induction s with
            | nil => intro k' n r h; simp [pathsL] at h
            | cons x s ih =>
              intro k' n r h
              rw [pathsL] at h
              by_cases hn : n < (x.paths.map (k' :: ·)).length
              · rw [List.getElem?_append_left hn, List.getElem?_map] at h
                cases e : x.paths[n]? with
                | none => rw [e] at h; cases h
                | some t => rw [e] at h; simp at h; exact ⟨k', t, h.symm, Nat.le_refl _⟩
              · rw [List.getElem?_append_right (by omega)] at h
                obtain ⟨c, t, e1, e2⟩ := ih _ _ _ h
                exact ⟨c, t, e1, by omega⟩
          obtain ⟨c, t, rfl, hc⟩ := hh s (k + 1) _ r hr
          rw [lcp, if_neg (by omega)]
          exact List.nil_prefix
      · rw [List.getElem?_append_right (by omega)] at hp hq hr
        exact convL s (k + 1) _ _ _ p q r (by omega) (by omega) hp hq hr
end
theorem lcp_prefix : ∀ (p q : List Nat), lcp p q <+: p ∧ lcp p q <+: q
  | [], q => by simp [lcp]
  | a :: p, [] => by simp [lcp]
  | a :: p, b :: q => by
    rw [lcp]
    split
    · rename_i e
      subst e
      have := lcp_prefix p q
      exact ⟨List.cons_prefix_cons.mpr ⟨rfl, this.1⟩, List.cons_prefix_cons.mpr ⟨rfl, this.2⟩⟩
    · exact ⟨List.nil_prefix, List.nil_prefix⟩
theorem prefix_lcp : ∀ {x p q : List Nat}, x <+: p → x <+: q → x <+: lcp p q
  | [], _, _, _, _ => List.nil_prefix
  | c :: x, p, q, h1, h2 => by
    cases p with
    | nil => simp at h1
    | cons a p =>
      cases q with
      | nil => simp at h2
      | cons b q =>
        obtain ⟨e1, g1⟩ := List.cons_prefix_cons.mp h1
        obtain ⟨e2, g2⟩ := List.cons_prefix_cons.mp h2
        subst e1; subst e2
        rw [lcp, if_pos rfl]
        exact List.cons_prefix_cons.mpr ⟨rfl, prefix_lcp g1 g2⟩
/-! the part at a place -/
theorem At.split : ∀ {p q : List Nat} {d : D} {w : Nat}, At d w (p ++ q) → ∃ e, sub d p = some e ∧ At e w q
  | [], q, d, w, h => ⟨d, by cases d <;> rfl, h⟩
  | k :: p, q, d, w, h => by
    cases h with
    | node h1 h2 =>
      obtain ⟨e, h3, h4⟩ := At.split h2
      exact ⟨e, by rw [sub, h1]; exact h3, h4⟩
theorem At.join : ∀ {p q : List Nat} {d e : D} {w : Nat}, sub d p = some e → At e w q → At d w (p ++ q)
  | [], q, d, e, w, h, k => by
    have : d = e := by cases d <;> (rw [sub] at h; cases h; rfl)
    subst this; exact k
  | c :: p, q, d, e, w, h, k => by
    cases d with
    | leaf => rw [sub] at h; cases h
    | node lab ds =>
      rw [sub] at h
      cases e1 : ds[c]? with
      | none => rw [e1] at h; cases h
      | some d' => rw [e1] at h; exact .node e1 (At.join h k)
theorem sub_small : ∀ {p : List Nat} {d e : D}, sub d p = some e → e.ht ≤ d.ht ∧ e.size ≤ d.size
  | [], d, e, h => by
    have : d = e := by cases d <;> (rw [sub] at h; cases h; rfl)
    subst this; exact ⟨Nat.le_refl _, Nat.le_refl _⟩
  | c :: p, d, e, h => by
    cases d with
    | leaf => rw [sub] at h; cases h
    | node lab ds =>
      rw [sub] at h
      cases e1 : ds[c]? with
      | none => rw [e1] at h; cases h
      | some d' =>
        rw [e1] at h
        have h1 := sub_small h
        have h2 := ht_le (List.mem_of_getElem? e1)
        have h3 := size_lt (List.mem_of_getElem? e1)
        simp only [D.ht, D.size]
        omega
theorem prefix_one {b P : List Nat} {x : Nat} (h : b <+: P) (e : P[b.length]? = some x) : b ++ [x] <+: P := by
  obtain ⟨t, rfl⟩ := h
  rw [List.getElem?_append_right (Nat.le_refl _), Nat.sub_self] at e
  cases t with
  | nil => simp at e
  | cons y t =>
    simp at e
    subst e
    exact ⟨t, by simp⟩
/-- two stretches of words: the place over both -/
theorem pair_law {d : D} {N s1 l1 s2 l2 : Nat} {pa1 pb1 pa2 pb2 pm px : List Nat} (hlv : d.leaves = List.range N) (h1 : s1 ≤ l1) (h2 : s2 ≤ l2)
    (ea1 : d.paths[s1]? = some pa1) (eb1 : d.paths[l1]? = some pb1) (ea2 : d.paths[s2]? = some pa2) (eb2 : d.paths[l2]? = some pb2) (em : d.paths[min s1 s2]? = some pm) (ex : d.paths[max l1 l2]? = some px) :
    lcp pm px <+: lcp pa1 pb1 ∧ lcp pm px <+: lcp pa2 pb2 ∧
    ∀ x y, (lcp pa1 pb1)[(lcp pm px).length]? = some x → (lcp pa2 pb2)[(lcp pm px).length]? = some y → x ≠ y ∧
      ∀ e1 e2, sub d (lcp pa1 pb1) = some e1 → sub d (lcp pa2 pb2) = some e2 → ∀ w ∈ e1.leaves, w ∉ e2.leaves := by
  have c1 := prefix_lcp (conv d _ s1 _ pm pa1 px (Nat.min_le_left _ _) (by omega) em ea1 ex) (conv d _ l1 _ pm pb1 px (by omega) (Nat.le_max_left _ _) em eb1 ex)
  have c2 := prefix_lcp (conv d _ s2 _ pm pa2 px (Nat.min_le_right _ _) (by omega) em ea2 ex) (conv d _ l2 _ pm pb2 px (by omega) (Nat.le_max_right _ _) em eb2 ex)
  refine ⟨c1, c2, fun x y hx hy => ?_⟩
  have g1 := prefix_one c1 hx
  have g2 := prefix_one c2 hy
  have hne : x ≠ y := by
    rintro rfl
    have q1 := (lcp_prefix pa1 pb1)
    have q2 := (lcp_prefix pa2 pb2)
    have m1 : lcp pm px ++ [x] <+: pm := by
      rcases Nat.le_total s1 s2 with h | h
      · rw [Nat.min_eq_left h, ea1] at em; cases em; exact g1.trans q1.1
      · rw [Nat.min_eq_right h, ea2] at em; cases em; exact g2.trans q2.1
    have m2 : lcp pm px ++ [x] <+: px := by
      rcases Nat.le_total l1 l2 with h | h
      · rw [Nat.max_eq_right h, eb2] at ex; cases ex; exact g2.trans q2.2
      · rw [Nat.max_eq_left h, eb1] at ex; cases ex; exact g1.trans q1.2
    have := (prefix_lcp m1 m2).length_le
    rw [List.length_append, List.length_singleton] at this
    omega
  refine ⟨hne, fun e1 e2 k1 k2 w w1 w2 => hne ?_⟩
  obtain ⟨q1, a1⟩ := at_ex w1
  obtain ⟨q2, a2⟩ := at_ex w2
  have hu := (At.join k1 a1).uniq (by rw [hlv]; exact List.nodup_range) (At.join k2 a2)
  have r1 : (lcp pa1 pb1 ++ q1)[(lcp pm px).length]? = some x := by
    rw [List.getElem?_append_left (List.getElem?_eq_some_iff.mp hx).1]; exact hx
  have r2 : (lcp pa2 pb2 ++ q2)[(lcp pm px).length]? = some y := by
    rw [List.getElem?_append_left (List.getElem?_eq_some_iff.mp hy).1]; exact hy
  rw [hu, r2] at r1
  exact (Option.some.inj r1).symm
/-- one stretch: the place of _law_down and what it met -/
theorem one_law {d : D} {N a b : Nat} {p pa pb : List Nat} {M : List D} (hlv : d.leaves = List.range N) (ha : a < N) (hb : b < N) (h : Down a b d p M) (ea : d.paths[a]? = some pa) (eb : d.paths[b]? = some pb) :
    p = lcp pa pb ∧ M = d.subs.filter (holds a b) ∧ ∃ e, sub d p = some e := by
  have hn : d.leaves.Nodup := by rw [hlv]; exact List.nodup_range
  have A1 := at_of d a a pa (by rw [hlv]; simp [ha]) ea
  have A2 := at_of d b b pb (by rw [hlv]; simp [hb]) eb
  have e := h.lcp hn A1 A2
  refine ⟨e, h.met hn A1.mem A2.mem, ?_⟩
  obtain ⟨t, ht⟩ := (lcp_prefix pa pb).1
  rw [← ht, ← e] at A1
  obtain ⟨e', h1, _⟩ := A1.split
  exact ⟨e', h1⟩
theorem path_ex {d : D} {N a : Nat} (hlv : d.leaves = List.range N) (ha : a < N) : ∃ p, d.paths[a]? = some p := by
  have : a < d.paths.length := by rw [paths_length, hlv, List.length_range]; exact ha
  exact ⟨_, List.getElem?_eq_getElem this⟩
/-! a drawing is one thing alone, and its parts do not bear its own list -/
theorem DrawnAt.fn {h : Heap} {v : Value} {d e : D} (T : DrawnAt h v d) (U : DrawnAt h v e) : d = e := by
  induction T generalizing e with
  | @leaf i t =>
    generalize hv : Value.str (wordStr i) t = v at U
    cases U with
    | leaf =>
      injection hv with h1 _
      rw [wordStr_inj h1]
    | node => cases hv
  | @node a l lab t k items ds h1 h2 h3 h4 ih =>
    cases U with
    | @node _ l2 lab2 t2 kk items2 ds2 k1 k2 k3 k4 =>
      rw [h1] at k1
      cases k1
      rw [h2] at k2
      injection k2 with k2
      injection k2 with _ _ k2
      injection k2 with k2 _
      have e1 : items = items2 := congrArg Array.toList k2
      subst e1
      congr 1
      refine List.ext_getElem? fun i => ?_
      by_cases hi : i < items.length
      · have g1 : ds[i]? = some (ds[i]'(h3 ▸ hi)) := List.getElem?_eq_getElem (h3 ▸ hi)
        have g2 : ds2[i]? = some (ds2[i]'(k3 ▸ hi)) := List.getElem?_eq_getElem (k3 ▸ hi)
        rw [g1, g2, ih i items[i] _ (List.getElem?_eq_getElem hi) g1 (k4 i items[i] _ (List.getElem?_eq_getElem hi) g2)]
      · rw [List.getElem?_eq_none (by omega), List.getElem?_eq_none (by omega)]
/-- a change at a list l leaves a drawing that is smaller than all that l bears -/
theorem DrawnAt.off {h h' : Heap} {l : Addr} {k : Nat} {items : List Value} {ds : List D} (hl : h.get? l = some (W.listOf items.toArray k)) (hlen : items.length = ds.length)
    (hch : ∀ (i : Nat) (v : Value) (d : D), items[i]? = some v → ds[i]? = some d → DrawnAt h v d) (hk : ∀ b o, b ≠ l → h.get? b = some o → h'.get? b = some o)
    {v : Value} {e : D} (T : DrawnAt h v e) (hs : e.size ≤ sizeL ds) : DrawnAt h' v e := by
  induction T with
  | leaf => exact .leaf
  | @node a l2 lab t k2 items2 ds2 h1 h2 h3 h4 ih =>
    have na : a ≠ l := by
      rintro rfl
      rw [h1] at hl
      injection hl with hl
      injection hl with hl
      exact absurd hl (by decide)
    have nl : l2 ≠ l := by
      rintro rfl
      rw [h2] at hl
      injection hl with hl
      injection hl with _ _ hl
      injection hl with hl _
      have e1 : items2 = items := congrArg Array.toList hl
      subst e1
      have e2 : ds2 = ds := by
        refine List.ext_getElem? fun i => ?_
        by_cases hi : i < items2.length
        · have g1 : ds2[i]? = some (ds2[i]'(h3 ▸ hi)) := List.getElem?_eq_getElem (h3 ▸ hi)
          have g2 : ds[i]? = some (ds[i]'(hlen ▸ hi)) := List.getElem?_eq_getElem (hlen ▸ hi)
          rw [g1, g2, (h4 i items2[i] _ (List.getElem?_eq_getElem hi) g1).fn (hch i items2[i] _ (List.getElem?_eq_getElem hi) g2)]
        · rw [List.getElem?_eq_none (by omega), List.getElem?_eq_none (by omega)]
      rw [e2, D.size] at hs
      omega
    refine .node (hk _ _ na h1) (hk _ _ nl h2) h3 fun i v d e1 e2 => ih i v d e1 e2 ?_
    have := size_lt (List.mem_of_getElem? e2)
    rw [D.size] at hs
    omega
theorem inst_frz {g h S : Heap} {L x C dx : Addr} {m : Str → Option Value} {news : List (Addr × Obj)} {od : Obj} {sl : Array (Option Value)} (F : Fr g L h m) (N : News g L h news) (ht : ∀ p ∈ frz g S, p ∈ news) (u : g.StaysIn S)
    (h1 : S.get? x = some ⟨.ref C, some dx, .plain, sl⟩) (h2 : S.get? dx = some od) : InstAt h x ⟨.ref C, some dx, .plain, sl⟩ C (some od) :=
  have k := up_of F N ht u
  ⟨k _ _ h1, rfl, rfl, k _ _ h2⟩
theorem alive_cons {g h : Heap} {L : Addr} {m : Str → Option Value} {AL : List Addr} (F : Fr g L h m) (hal : ∀ q ∈ AL, ∃ o, h.get? q = some o) : ∀ q ∈ L :: AL, ∃ o, h.get? q = some o := fun q hq => by
  rcases List.mem_cons.mp hq with rfl | hq
  · obtain ⟨o, _, _, e, _⟩ := F.ns; exact ⟨o, e⟩
  · exact hal q hq
theorem ne_of_none {h : Heap} {a q : Addr} {o : Obj} (e : h.get? q = some o) (n : h.get? a = none) : q ≠ a := fun r => by rw [r, n] at e; cases e
theorem ne_of_size {h : Heap} {n q : Addr} {o : Obj} (e : h.get? q = some o) (r : h.objs.size ≤ n) : q ≠ n := fun k => absurd (Heap.lt_size e) (by rw [k]; exact Nat.not_lt.mpr r)
theorem none_up {h h' : Heap} {a : Addr} (u : h.StaysIn h') (n : h'.get? a = none) : h.get? a = none := by
  cases e : h.get? a with
  | none => rfl
  | some o => have := u _ _ e; rw [n] at this; cases this
mutual
theorem subs_small : ∀ (d e : D), e ∈ d.subs → e.ht ≤ d.ht ∧ e.size ≤ d.size
  | .leaf _, e, h => by simp [D.subs] at h
  | .node lab ds, e, h => by
    rw [D.subs] at h
    rcases List.mem_cons.mp h with rfl | h
    · exact ⟨Nat.le_refl _, Nat.le_refl _⟩
    · have := subsL_small ds e h
      simp only [D.ht, D.size]; omega
theorem subsL_small : ∀ (ds : List D) (e : D), e ∈ subsL ds → e.ht ≤ htL ds ∧ e.size ≤ sizeL ds
  | [], e, h => by simp [subsL] at h
  | d :: r, e, h => by
    rw [subsL, List.mem_append] at h
    rw [htL, sizeL]
    rcases h with h | h
    · have := subs_small d e h; omega
    · have := subsL_small r e h; omega
end
mutual
theorem subs_len : ∀ d : D, d.subs.length ≤ d.size
  | .leaf _ => by simp [D.subs]
  | .node _ ds => by have := subsL_len ds; simp only [D.subs, D.size, List.length_cons]; omega
theorem subsL_len : ∀ ds : List D, (subsL ds).length ≤ sizeL ds
  | [] => by simp [subsL]
  | d :: r => by have := subs_len d; have := subsL_len r; simp only [subsL, sizeL, List.length_append]; omega
end
def Goods (P : Value → D → Prop) (V : List Value) (L : List D) : Prop := V.length = L.length ∧ ∀ (i : Nat) (u : Value) (e : D), V[i]? = some u → L[i]? = some e → P u e
theorem Goods.append {P : Value → D → Prop} {V V' : List Value} {L L' : List D} (a : Goods P V L) (b : Goods P V' L') : Goods P (V ++ V') (L ++ L') := by
  refine ⟨by simp [a.1, b.1], fun i u e h1 h2 => ?_⟩
  by_cases q : i < V.length
  · rw [List.getElem?_append_left q] at h1
    rw [List.getElem?_append_left (a.1 ▸ q)] at h2
    exact a.2 i u e h1 h2
  · rw [List.getElem?_append_right (by omega)] at h1
    rw [List.getElem?_append_right (by have := a.1; omega), ← a.1] at h2
    exact b.2 _ u e h1 h2
theorem Goods.flat {P : Value → D → Prop} : ∀ (Vs : List (List Value)) (ds : List D), Vs.length = ds.length → (∀ (i : Nat) (V : List Value) (d : D), Vs[i]? = some V → ds[i]? = some d → Goods P V d.subs) → Goods P Vs.flatten (subsL ds)
  | [], [], _, _ => ⟨rfl, fun i u e h => by simp at h⟩
  | V :: Vs, d :: ds, hl, h => by
    rw [List.flatten_cons, subsL]
    refine (h 0 V d rfl rfl).append (Goods.flat Vs ds (by simpa using hl) fun i V d h1 h2 => h (i + 1) V d (by simpa using h1) (by simpa using h2))
  | [], _ :: _, hl, _ => by simp at hl
  | _ :: _, [], hl, _ => by simp at hl
theorem TreeV.goods {w : World} {h : Heap} {v : Value} {d : D} {V : List Value} (T : TreeV w h v d V) : Goods (fun u e => TreeAt w h u e ∧ ∃ y lab ds, u = .ref y ∧ e = .node lab ds) V d.subs := by
  induction T with
  | leaf => exact ⟨rfl, fun i u e h => by simp at h⟩
  | node h1 h2 h3 h4 h5 hch ih =>
    rename_i x dx c lab t1 t2 t3 k items ds Vs
    rw [D.subs]
    have one : Goods (fun u e => TreeAt w h u e ∧ ∃ y lab ds, u = .ref y ∧ e = .node lab ds) [Value.ref x] [D.node lab ds] := ⟨rfl, fun i u e e1 e2 => by
      cases i with
      | zero =>
        simp at e1 e2
        subst e1; subst e2
        refine ⟨.node h1 h2 h3 h4 fun i v d hv hd => ?_, _, _, _, rfl, rfl⟩
        have hlt : i < Vs.length := h5 ▸ (List.getElem?_eq_some_iff.mp hd).1
        exact (hch i v d Vs[i] hv hd (List.getElem?_eq_getElem hlt)).at
      | succ i => simp at e1⟩
    refine one.append (Goods.flat Vs ds h5 fun i V d e1 e2 => ?_)
    have hlt : i < items.length := h4 ▸ (List.getElem?_eq_some_iff.mp e2).1
    exact ih i items[i] d V (List.getElem?_eq_getElem hlt) e2 e1
theorem item1T_H {w : World} {A : Around} {E : Value → Shared → Prop} {s : Shared} {g : Heap} {L : Addr} {m : Str → Option Value} {value slice : Expr} {a : Addr} {x y : Value} {u : Tok} {Q : Value → Shared → Prop} (F : Fr g L s.heap m) (hl : IsTup g a #[y, x])
    (h : Q x s)
    (hs : subscripted slice false (.ref a) (.int 1 u) = operate [.ref a, .int 1 u] (getItem (.ref a) (.int 1 u))) (hg : ∀ r, letTemporaryGo value (.ref a) r = pure ()) :
    wpAny (model prog w) A (subscriptTail value slice (.ref a) (.int 1 u)) Q E s := by
  have hl2 : IsTup s.heap a [y, x].toArray := let ⟨o, ho, r⟩ := hl; ⟨o, F.keep _ _ ho, r⟩
  exact item_tupleL (j := 1) hl2 (by omega) (by omega) (seqIndex_of (by omega) (by simp)) rfl h hs hg
theorem itemW_H {w : World} {A : Around} {E : Value → Shared → Prop} {s : Shared} {g : Heap} {L : Addr} {m : Str → Option Value} {value slice : Expr} {a : Addr} {l : List Value} {n : Int} {i : Nat} {u : Tok} {x : Value} {Q : Value → Shared → Prop} (F : Fr g L s.heap m) (hl : g.IsList a l.toArray)
    (hx : l[i]? = some x) (hn : n = (i : Int)) (hz : l.length ≤ 1000000) (h : Q x s)
    (hs : subscripted slice false (.ref a) (.int n u) = operate [.ref a, .int n u] (getItem (.ref a) (.int n u))) (hg : ∀ r, letTemporaryGo value (.ref a) r = pure ()) :
    wpAny (model prog w) A (subscriptTail value slice (.ref a) (.int n u)) Q E s := by
  subst hn
  exact item_H (isList_keeps hl F.keep) hx hz h hs hg
theorem inW_H {w : World} {A : Around} {E : Value → Shared → Prop} {s : Shared} {g : Heap} {L : Addr} {m : Str → Option Value} {l : Addr} {vs : List Value} {is : List Nat} {a : Nat} {t : Tok} {Q : Value → Shared → Prop} (F : Fr g L s.heap m) (hl : g.IsList l vs.toArray) (hw : Words vs is)
    (h : Q (.bool (decide (a ∈ is))) s) : wpAny (model prog w) A (compareOp .In (.str (wordStr a) t) (.ref l)) Q E s := in_H (isList_keeps hl F.keep) hw h
theorem split_gtI {a b : Int} {P Q : Prop} (ht : b < a → P) (hf : ¬ b < a → Q) : if decide (a > b) = true then P else Q := by
  by_cases h : b < a
  · rw [if_pos (decide_eq_true h)]; exact ht h
  · rw [if_neg (by rw [decide_eq_false h]; exact Bool.false_ne_true)]; exact hf h
theorem split_mem {a : Nat} {l : List Nat} {P Q : Prop} (ht : a ∈ l → P) (hf : a ∉ l → Q) : if decide (a ∈ l) = true then P else Q := by
  by_cases h : a ∈ l
  · rw [if_pos (decide_eq_true h)]; exact ht h
  · rw [if_neg (by rw [decide_eq_false h]; exact Bool.false_ne_true)]; exact hf h
theorem itemN_H {w : World} {A : Around} {E : Value → Shared → Prop} {s : Shared} {g : Heap} {L : Addr} {news : List (Addr × Obj)} {value slice : Expr} {a : Addr} {l : List Value} {k i : Nat} {u : Tok} {x : Value} {Q : Value → Shared → Prop} (N : News g L s.heap news) (hl : (a, W.listOf l.toArray k) ∈ news)
    (hx : l[i]? = some x) (hz : l.length ≤ 1000000) (h : Q x s)
    (hs : subscripted slice false (.ref a) (.int (i : Int) u) = operate [.ref a, .int (i : Int) u] (getItem (.ref a) (.int (i : Int) u))) (hg : ∀ r, letTemporaryGo value (.ref a) r = pure ()) :
    wpAny (model prog w) A (subscriptTail value slice (.ref a) (.int (i : Int) u)) Q E s := item_H (isList_at (N _ hl).1) hx hz h hs hg
theorem tail_opsR {w : World} {A : Around} {E : Value → Shared → Prop} {s : Shared} {value slice : Expr} {o i : Value} {T id : String} {ops : List Value} {Q : Value → Shared → Prop} (hT : s.TypeIs o T)
    (hl : typeLookup (.type T) "__getitem__" = pure (some (.builtin id))) (h : wpAny (model prog w) A (getItem o i) Q E s)
    (hs : subscripted slice false o i = operate ops (getItem o i)) :
    wpAny (model prog w) A (subscriptTail value slice o i) Q E s := by
  unfold subscriptTail
  refine wpAny_bind ?_
  rw [getitemInPython_of_ne hT.not_modules]
  refine wpAny_bind (wpAny_specialOf hT hl ?_)
  have fin : wpAny (model prog w) A (subscripted slice false o i) (fun r s₃ => wpAny (model prog w) A (letTemporaryGo value o r >>= fun _ => pure r) Q E s₃) E s := by
    rw [hs]
    exact wpAny_operating (wpAny_mono h (fun r s₃ h₃ => wpAny_bind (wpAny_letTemporaryGo (wpAny_pure h₃))) fun _ _ x => x)
  first
    | exact wpAny_pure (wpAny_bind fin)
    | exact wpAny_bind (wpAny_pure (wpAny_bind fin))
    | exact wpAny_bind fin
theorem itemR_F {w : World} {A : Around} {E : Value → Shared → Prop} {s : Shared} {h : Heap} {value slice : Expr} {a : Addr} {l : List Value} {n : Int} {i : Nat} {x : Value} {u : Tok} {Q : Value → Shared → Prop} (us : h.StaysIn s.heap)
    (e : h.get? a = some (tupO l.toArray)) (hn : n = (i : Int)) (hx : l[i]? = some x) (hz : l.length ≤ 1000000) (k : Q x s)
    (hs : subscripted slice false (.ref a) (.int n u) = operate [.ref a, .int n u] (getItem (.ref a) (.int n u))) :
    wpAny (model prog w) A (subscriptTail value slice (.ref a) (.int n u)) Q E s := by
  subst hn
  have hl2 : IsTup s.heap a l.toArray := ⟨_, us _ _ e, rfl, _, rfl⟩
  have := (List.getElem?_eq_some_iff.mp hx).1
  exact tail_opsR hl2.typeIs slot_tuple_getitem.lookup (getItem_tuple hl2 (by omega) (by omega) (j := i) (by rw [List.size_toArray, seqIndex_of (n := l.length) (by omega) (by simpa using this)]; simp) (by simpa using hx) k) hs
theorem slice_toR {w : World} {A : Around} {E : Value → Shared → Prop} {s : Shared} {h₀ : Heap} {L : Addr} {m : Str → Option Value} {news : List (Addr × Obj)} {value slice : Expr} {t : Addr} {l : List Value} {a : Nat} {u : Tok} {Q : Value → Shared → Prop}
    (F : Fr h₀ L s.heap m) (N : News h₀ L s.heap news) (ht : (t, tupO l.toArray) ∈ news) (ha : a ≤ l.length) (hz : l.length ≤ 1000000)
    (h : ∀ r h', Fr h₀ L h' m → News h₀ L h' ((r, tupO (l.take a).toArray) :: news) → Q (.ref r) { s with heap := h' })
    (hs : subscripted slice false (.ref t) (.ref s.heap.objs.size) = operate [.ref s.heap.objs.size, .ref t] (getItem (.ref t) (.ref s.heap.objs.size))) :
    wpAny (model prog w) A (subscriptTail value slice (.ref t) (.ref s.heap.objs.size)) Q E { s with heap := s.heap.push { cls := .type "slice", data := .fields #[.none, .int a u, .none] } } := by
  have N0 : News h₀ L (s.heap.push { cls := .type "slice", data := .fields #[.none, .int a u, .none] }) news := N.grown fun _ _ e => Heap.get?_push_of_some _ e
  have ht' : IsTup (s.heap.push { cls := .type "slice", data := .fields #[.none, .int a u, .none] }) t l.toArray := ⟨_, (N0 _ ht).1, rfl, _, rfl⟩
  refine tail_opsR (s := { s with heap := s.heap.push { cls := .type "slice", data := .fields #[.none, .int a u, .none] } }) ht'.typeIs slot_tuple_getitem.lookup
    (item_to ht' (Heap.IsSliceOf.new ..) ha (fun e => ?_) ?_ hz) hs
  · have e2 : l.take a = l := by rw [e, List.take_length]
    refine h t _ (F.push _) fun p hp => ?_
    rcases List.mem_cons.mp hp with rfl | hp
    · rw [e2]; exact N0 _ ht
    · exact N0 p hp
  · have N1 := News.push (F.push { cls := .type "slice", data := .fields #[.none, .int a u, .none] }) N0 (tupO (l.take a).toArray)
    exact h _ _ ((F.push _).push _) N1
theorem prefix_ints {xs xb : List Value} {P B : List Nat} (h : IntsAre xs (numsP P)) (hb : IntsAre xb (numsP B)) (p : B <+: P) : xb.length ≤ xs.length ∧ IntsAre (xs.take xb.length) (numsP B) := by
  rw [numsP_length hb]
  refine ⟨by rw [numsP_length h]; exact p.length_le, ?_⟩
  have := numsP_take h B.length
  rwa [← List.prefix_iff_eq_take.mp p] at this
/-- an item of a tuple that stands in the frozen part -/
theorem itemF_H {w : World} {A : Around} {E : Value → Shared → Prop} {s : Shared} {g S : Heap} {L : Addr} {m : Str → Option Value} {news : List (Addr × Obj)} {value slice : Expr} {a : Addr} {items : Array Value} {n : Int} {i : Nat} {x : Value} {u : Tok} {Q : Value → Shared → Prop} (F : Fr g L s.heap m) (N : News g L s.heap news) (ht : ∀ p ∈ frz g S, p ∈ news) (us : g.StaysIn S)
    (e : S.get? a = some (tupO items)) (hn : n = (i : Int)) (hx : items[i]? = some x) (hz : items.size ≤ 100000) (h : Q x s)
    (hs : subscripted slice false (.ref a) (.int n u) = operate [.ref a, .int n u] (getItem (.ref a) (.int n u))) (hg : ∀ r, letTemporaryGo value (.ref a) r = pure ()) :
    wpAny (model prog w) A (subscriptTail value slice (.ref a) (.int n u)) Q E s := by
  subst hn
  obtain ⟨l⟩ := items
  have e' : S.get? a = some (tupO l.toArray) := e
  have hx' : l[i]? = some x := by simpa using hx
  have hl2 : IsTup s.heap a l.toArray := ⟨_, up_of F N ht us _ _ e', rfl, _, rfl⟩
  exact itemT_H hl2 hx' (by simp at hz; omega) h hs hg
theorem item3_0 {w : World} {A : Around} {E : Value → Shared → Prop} {s : Shared} {g S : Heap} {L : Addr} {m : Str → Option Value} {news : List (Addr × Obj)} {value slice : Expr} {a : Addr} {y0 y1 y2 : Value} {u : Tok} {Q : Value → Shared → Prop} (F : Fr g L s.heap m) (N : News g L s.heap news) (ht : ∀ p ∈ frz g S, p ∈ news) (us : g.StaysIn S)
    (e : S.get? a = some (tupO #[y0, y1, y2])) (h : Q y0 s)
    (hs : subscripted slice false (.ref a) (.int 0 u) = operate [.ref a, .int 0 u] (getItem (.ref a) (.int 0 u))) (hg : ∀ r, letTemporaryGo value (.ref a) r = pure ()) :
    wpAny (model prog w) A (subscriptTail value slice (.ref a) (.int 0 u)) Q E s := itemF_H (i := 0) F N ht us e rfl rfl (Nat.le_of_ble_eq_true rfl) h hs hg
theorem item3_1 {w : World} {A : Around} {E : Value → Shared → Prop} {s : Shared} {g S : Heap} {L : Addr} {m : Str → Option Value} {news : List (Addr × Obj)} {value slice : Expr} {a : Addr} {y0 y1 y2 : Value} {u : Tok} {Q : Value → Shared → Prop} (F : Fr g L s.heap m) (N : News g L s.heap news) (ht : ∀ p ∈ frz g S, p ∈ news) (us : g.StaysIn S)
    (e : S.get? a = some (tupO #[y0, y1, y2])) (h : Q y1 s)
    (hs : subscripted slice false (.ref a) (.int 1 u) = operate [.ref a, .int 1 u] (getItem (.ref a) (.int 1 u))) (hg : ∀ r, letTemporaryGo value (.ref a) r = pure ()) :
    wpAny (model prog w) A (subscriptTail value slice (.ref a) (.int 1 u)) Q E s := itemF_H (i := 1) F N ht us e rfl rfl (Nat.le_of_ble_eq_true rfl) h hs hg
theorem item3_2 {w : World} {A : Around} {E : Value → Shared → Prop} {s : Shared} {g S : Heap} {L : Addr} {m : Str → Option Value} {news : List (Addr × Obj)} {value slice : Expr} {a : Addr} {y0 y1 y2 : Value} {u : Tok} {Q : Value → Shared → Prop} (F : Fr g L s.heap m) (N : News g L s.heap news) (ht : ∀ p ∈ frz g S, p ∈ news) (us : g.StaysIn S)
    (e : S.get? a = some (tupO #[y0, y1, y2])) (h : Q y2 s)
    (hs : subscripted slice false (.ref a) (.int 2 u) = operate [.ref a, .int 2 u] (getItem (.ref a) (.int 2 u))) (hg : ∀ r, letTemporaryGo value (.ref a) r = pure ()) :
    wpAny (model prog w) A (subscriptTail value slice (.ref a) (.int 2 u)) Q E s := itemF_H (i := 2) F N ht us e rfl rfl (Nat.le_of_ble_eq_true rfl) h hs hg
theorem lenF_H {w : World} {A : Around} {E : Value → Shared → Prop} {s : Shared} {g S : Heap} {L : Addr} {m : Str → Option Value} {news : List (Addr × Obj)} {a : Addr} {l : List Value} {Q : Value → Shared → Prop} (F : Fr g L s.heap m) (N : News g L s.heap news) (ht : ∀ p ∈ frz g S, p ∈ news) (us : g.StaysIn S)
    (e : S.get? a = some (tupO l.toArray)) (hz : l.length ≤ 1000000) (h : Q (.int (l.length : Int) (s.toks + 1)) { s with toks := s.toks + 1 + 1 }) : wpAny (model prog w) A (call (.builtin "len") [.ref a]) Q E s :=
  lenT_H ⟨_, up_of F N ht us _ _ e, rfl, _, rfl⟩ hz h
theorem IsTup.mk_at {h : Heap} {a : Addr} {o : Array Value} (e : h.get? a = some (tupO o)) : IsTup h a o := ⟨_, e, rfl, _, rfl⟩
theorem mets_yes {h : Heap} {acc : List Value} {L : List D} {j a b : Nat} {v : Value} {e : D} (m : Mets h acc ((L.take j).filter (holds a b))) (he : L[j]? = some e) (k : MetAt h v e) (ha : a ∈ e.leaves) (hb : b ∈ e.leaves) : Mets h (acc ++ [v]) ((L.take (j + 1)).filter (holds a b)) := by
  rw [take_snoc he, List.filter_append, List.filter_cons_of_pos (by simp [holds, ha, hb]), List.filter_nil]
  exact m.snoc k
theorem mets_no {h : Heap} {acc : List Value} {L : List D} {j a b : Nat} {e : D} (m : Mets h acc ((L.take j).filter (holds a b))) (he : L[j]? = some e) (hn : ¬ (a ∈ e.leaves ∧ b ∈ e.leaves)) : Mets h acc ((L.take (j + 1)).filter (holds a b)) := by
  rw [take_snoc he, List.filter_append, List.filter_cons_of_neg (by simpa [holds] using hn), List.filter_nil, List.append_nil]
  exact m
theorem lt_off {AL : List Addr} {l l2 : List (Addr × Obj)} {tt : Addr} (e : l.map (·.1) = AL) (h : ∀ p : Addr × Obj, p ∈ l ++ l2 → p.1 < tt) : tt ∉ AL := fun hm => by
  subst e
  obtain ⟨p, hp, q⟩ := List.mem_map.mp hm
  have := h p (List.mem_append_left _ hp)
  rw [q] at this
  exact absurd this (Nat.lt_irrefl _)
theorem plen {d : D} {i : Nat} {p q : List Nat} (h : d.paths[i]? = some p) (hq : q <+: p) : q.length ≤ d.ht := Nat.le_trans hq.length_le (paths_ht d p (List.mem_of_getElem? h))
theorem sub_ex {d : D} {N i : Nat} {p q : List Nat} (hlv : d.leaves = List.range N) (hi : i < N) (h : d.paths[i]? = some p) (hq : q <+: p) : ∃ e, sub d q = some e := by
  have A1 := at_of d i i p (by rw [hlv]; exact List.getElem?_range hi) h
  obtain ⟨t, rfl⟩ := hq
  obtain ⟨e, h1, _⟩ := A1.split
  exact ⟨e, h1⟩
theorem ne_local {g h : Heap} {L b : Addr} {m : Str → Option Value} (F : Fr g L h m) (n : h.get? b = none) : b ≠ L := fun q => by
  obtain ⟨o, _, _, e, _⟩ := F.ns
  rw [q, e] at n; cases n
theorem cl (n : Nat) (h : Nat.ble n 9000 = true) : n < cLine := by
  have h1 := Nat.le_of_ble_eq_true h
  have h2 := cLine_is
  omega
theorem minIte (st1 st2 : Nat) : ∀ inst : Decidable ((st2 : Int) < (st1 : Int)), @ite Int ((st2 : Int) < (st1 : Int)) inst (st2 : Int) (st1 : Int) = ((min st1 st2 : Nat) : Int) := fun inst => by split <;> omega
theorem maxIte (en1 en2 : Nat) : ∀ inst : Decidable (((en2 + 1 : Nat) : Int) > ((en1 + 1 : Nat) : Int)), @ite Int (((en2 + 1 : Nat) : Int) > ((en1 + 1 : Nat) : Int)) inst ((en2 + 1 : Nat) : Int) ((en1 + 1 : Nat) : Int) = ((max en1 en2 + 1 : Nat) : Int) := fun inst => by split <;> omega
theorem stretch {ws : List Value} {N st en : Nat} (hW : Words ws (List.range N)) (h1 : st ≤ en) (h2 : en < N) :
    ∃ (xs : List Value) (ta tb : Tok), slicePick ws.toArray (some (st : Int)) (some ((en + 1 : Nat) : Int)) none = xs.toArray ∧ xs[0]? = some (.str (wordStr st) ta) ∧ xs.getLast? = some (.str (wordStr en) tb) ∧ xs.length ≤ N := by
  have hl : ws.length = N := by rw [hW.length, List.length_range]
  obtain ⟨ta, e1⟩ := hW.get (k := st) (i := st) (List.getElem?_range (by omega))
  obtain ⟨tb, e2⟩ := hW.get (k := en) (i := en) (List.getElem?_range (by omega))
  refine ⟨(ws.drop st).take (en + 1 - st), ta, tb, ?_, ?_, ?_, ?_⟩
  · rw [slicePick_run ws.toArray st (en + 1) (by simp; omega) (by omega)]
  · rw [List.getElem?_take_of_lt (by omega), List.getElem?_drop]; exact e1
  · rw [List.getLast?_eq_getElem?, List.length_take, List.length_drop, Nat.min_eq_left (by omega), List.getElem?_take_of_lt (by omega), List.getElem?_drop, show st + (en + 1 - st - 1) = en by omega]
    exact e2
  · rw [List.length_take, List.length_drop]; omega
section
local macro_rules | `(tactic| walk_at "ite") => `(tactic| (k_here; first | (with_reducible refine ieq_yes (by omega) ?_) | (with_reducible refine ieq_no (by omega) ?_) | (with_reducible refine ine_yes (by omega) ?_) | (with_reducible refine ine_no (by omega) ?_)))
local macro_rules | `(tactic| walk_at "subscriptTail") => `(tactic| (k_here; (with_reducible show wpAny _ _ (subscriptTail _ (Expr.Constant _ _ _) (Value.ref _) (Value.int 0 _)) _ _ _); (k_dflt refine' item0T_H ?k1 ?k2 ?_ ?k4 ?k5; (case k1 => first | kun_tup | exact tup_up (by k_asm) (by assumption)); (case k2 => with_reducible assumption); (case k4 => with_unfolding_all rfl); (case k5 => (intro _; with_unfolding_all rfl)); k_whole)))
local macro_rules | `(tactic| walk_at "exec If") => `(tactic| (k_here; (with_reducible show wpAny _ _ (exec (Stmt.If (Expr.Compare (Expr.Name (Str.ofString "words") _) _ _ _) _ _ _) _) _ _ _); refine stop ?_))
local macro_rules | `(tactic| walk_at "compareOp Eq ref ref") => `(tactic| (k_here; refine stop ?_))
local macro_rules | `(tactic| walk_at "compareOp NotEq ref ref") => `(tactic| (k_here; refine stop ?_))
local macro_rules | `(tactic| walk_at "exec Assign cons ListComp") => `(tactic| (k_here; refine stop ?_))
local macro_rules | `(tactic| k_inst) => `(tactic| (refine' inst_frz ?F ?N ?t ?u ?h1 ?h2; (case F => k_asm); (case N => k_asm); (case h1 => assumption); (case h2 => assumption); (case u => assumption); (case t => (intro p hp; repeat (first | exact hp | refine List.Mem.tail _ ?_)))))
section
local macro_rules | `(tactic| walk_at "eval Name") => `(tactic| (k_here; (with_reducible show wpAny _ _ (eval (Expr.Name _ _) (compEnvC _ _ _ _)) _ _ _); k_dflt (refine' nameC_cell ?F ?c ?m ?d ?_ ?a ?b; (case c => rfl); (case a => rfl); (case b => rfl); (case F => k_asm); (case m => with_reducible assumption); (case d => with_reducible assumption); k_whole)))
local macro_rules | `(tactic| walk_at "subscriptTail") => `(tactic| (k_here; (with_reducible show wpAny _ _ (subscriptTail _ (Expr.Constant _ _ _) (Value.ref _) (Value.int 1 _)) _ _ _); k_dflt (refine' item1T_H ?F ?hl ?_ ?s ?t; (case F => k_asm); (case hl => with_reducible assumption); (case s => with_unfolding_all rfl); (case t => (intro _; with_unfolding_all rfl)); k_whole)))
local macro_rules | `(tactic| walk_at "subscriptTail") => `(tactic| (k_here; (with_reducible show wpAny _ _ (subscriptTail _ (Expr.Name _ _) (Value.ref _) (Value.int _ _)) _ _ _); k_dflt (refine' itemW_H ?F ?hl ?hx rfl ?hz ?_ ?s ?t; (case F => k_asm); (case hl => with_reducible assumption); (case hx => with_reducible assumption); (case hz => first | assumption | omega); (case s => with_unfolding_all rfl); (case t => (intro _; with_unfolding_all rfl)); k_whole)))
local macro_rules | `(tactic| walk_at "compareOp In str ref") => `(tactic| (k_here; (with_reducible show wpAny _ _ (compareOp CmpOp.In (Value.str _ _) (Value.ref _)) _ _ _); (k_dflt refine' inW_H ?F ?hl ?hw ?_; (case F => k_asm); (case hl => with_reducible assumption); (case hw => with_reducible assumption); k_whole)))
local macro_rules | `(tactic| walk_at "ite") => `(tactic| (k_here; (with_reducible refine split_mem ?_ ?_ <;> intro _)))
local macro_rules | `(tactic| walk_at "subscriptTail") => `(tactic| (k_here; (with_reducible show wpAny _ _ (subscriptTail _ (Expr.BinOp _ _ _ _) (Value.ref _) (Value.int _ _)) _ _ _); refine stop ?_))
section
local macro_rules | `(tactic| walk_at "subscriptTail") => `(tactic| (k_here; (with_reducible show wpAny _ _ (subscriptTail _ (Expr.Constant _ _ _) (Value.ref _) (Value.int _ _)) _ _ _); refine stop ?_))
local macro_rules | `(tactic| walk_at "subscriptTail") => `(tactic| (k_here; (with_reducible show wpAny _ _ (subscriptTail _ (Expr.Constant _ _ _) (Value.ref _) (Value.int 0 _)) _ _ _); k_dflt (refine' item3_0 ?F ?N ?t ?u ?e ?_ ?s ?g; (case F => k_asm); (case N => k_asm); (case e => with_reducible assumption); (case u => with_reducible assumption); (case t => (intro p hp; repeat (first | exact hp | refine List.Mem.tail _ ?_))); (case s => with_unfolding_all rfl); (case g => (intro _; with_unfolding_all rfl)); k_whole)))
local macro_rules | `(tactic| walk_at "subscriptTail") => `(tactic| (k_here; (with_reducible show wpAny _ _ (subscriptTail _ (Expr.Constant _ _ _) (Value.ref _) (Value.int 1 _)) _ _ _); k_dflt (refine' item3_1 ?F ?N ?t ?u ?e ?_ ?s ?g; (case F => k_asm); (case N => k_asm); (case e => with_reducible assumption); (case u => with_reducible assumption); (case t => (intro p hp; repeat (first | exact hp | refine List.Mem.tail _ ?_))); (case s => with_unfolding_all rfl); (case g => (intro _; with_unfolding_all rfl)); k_whole)))
local macro_rules | `(tactic| walk_at "subscriptTail") => `(tactic| (k_here; (with_reducible show wpAny _ _ (subscriptTail _ (Expr.Constant _ _ _) (Value.ref _) (Value.int 2 _)) _ _ _); k_dflt (refine' item3_2 ?F ?N ?t ?u ?e ?_ ?s ?g; (case F => k_asm); (case N => k_asm); (case e => with_reducible assumption); (case u => with_reducible assumption); (case t => (intro p hp; repeat (first | exact hp | refine List.Mem.tail _ ?_))); (case s => with_unfolding_all rfl); (case g => (intro _; with_unfolding_all rfl)); k_whole)))
local macro_rules | `(tactic| walk_at "subscriptTail") => `(tactic| (k_here; (with_reducible show wpAny _ _ (subscriptTail _ (Expr.Name _ _) (Value.ref _) (Value.int _ _)) _ _ _); k_dflt (refine' itemN_H ?N ?hl ?hx ?hz ?_ ?s ?t; (case N => k_asm); (case hl => k_mem); (case hx => with_reducible assumption); (case hz => first | assumption | omega); (case s => with_unfolding_all rfl); (case t => (intro _; with_unfolding_all rfl)); k_whole)))
local macro_rules | `(tactic| walk_at "call builtin:len") => `(tactic| (k_here; (with_reducible show wpAny _ _ (call (Value.builtin "len") [Value.ref _]) _ _ _); (k_dflt refine' lenF_H ?F ?N ?t ?u ?e ?z ?_; (case F => k_asm); (case N => k_asm); (case e => with_reducible assumption); (case u => with_reducible assumption); (case t => (intro p hp; repeat (first | exact hp | refine List.Mem.tail _ ?_))); (case z => first | assumption | omega); k_whole)))
local macro_rules | `(tactic| walk_at "subscriptTail") => `(tactic| (k_here; (with_reducible show wpAny _ _ (subscriptTail _ (PySem.Expr.Slice none (some _) none _) (Value.ref _) (Value.ref _)) _ _ _); refine stop ?_))
local macro_rules | `(tactic| walk_at "subscriptTail Subscript Slice ref ref") => `(tactic| (k_here; refine stop ?_))
local macro_rules | `(tactic| walk_at "subscriptTail Name Slice ref ref") => `(tactic| (k_here; (with_reducible show wpAny _ _ (subscriptTail _ (PySem.Expr.Slice (some _) (some _) none _) (Value.ref _) (Value.ref _)) _ _ _); (refine slice_list (by k_asm) (by k_asm) (by exact News.isList (by k_asm) (by k_mem)) (by exact .int _ _) (by exact .int _ _) ?_); intro _ _ _))
local macro_rules | `(tactic| walk_at "ite") => `(tactic| (k_here; (with_reducible refine split_gtI ?_ ?_ <;> intro _)))
local macro_rules | `(tactic| walk_at "ite") => `(tactic| (k_here; (with_reducible refine ieq_no (by with_reducible assumption) ?_)))
local macro_rules | `(tactic| walk_at "subscriptTail") => `(tactic| (k_here; (with_reducible show wpAny _ _ (subscriptTail (Expr.Subscript _ _ _) (Expr.Name _ _) (Value.ref _) (Value.int _ _)) _ _ _); refine stop ?_))
theorem law_same {K : Frag} {f : Addr} {oc dV kV doc pm cdv ct : Value} {od an : Option Addr} {name qual : Str} {params : Arguments} {body : List Stmt} {scope : Scope} {osl : Array (Option Value)}
    {oc' dV' kV' doc' pm' cdv' ct' : Value} {od' an' : Option Addr} {name' qual' : Str} {params' : Arguments} {body' : List Stmt} {scope' : Scope} {osl' : Array (Option Value)}
    (h1 : K.lookup f = some ⟨oc, od, .func (fnOf name qual params body scope dV kV doc pm an cdv ct), osl⟩)
    (h2 : K.lookup f = some ⟨oc', od', .func (fnOf name' qual' params' body' scope' dV' kV' doc' pm' an' cdv' ct'), osl'⟩)
    (P : Str → List Stmt → Scope → Value → Prop) (h : P qual' body' scope' cdv') : P qual body scope cdv := by
  rw [h1] at h2
  injection h2 with h2
  injection h2 with _ _ h2 _
  injection h2 with h2
  unfold fnOf at h2
  injection h2 with e1 e2 e3 e4 e5 e6 e7 e8 e9 e10 e11 e12 e13 e14
  injection e4 with e4
  subst_vars
  exact h
inductive RowAt (d : D) (N : Nat) (h : Heap) (v : Value) (st en : Nat) : Prop
  | mk (r : Addr) (ta : Tok) (tb : Tok) (pv : Value) (ps : List Nat) (pe : List Nat) (f19 : v = .ref r) (f29 : h.get? r = some (tupO #[.int (st : Int) ta, .int ((en + 1 : Nat) : Int) tb, pv])) (f39 : st ≤ en) (f49 : en < N) (f59 : d.paths[st]? = some ps) (f69 : d.paths[en]? = some pe) (f79 : PathAt h pv (lcp ps pe)) : RowAt d N h v st en
theorem RowAt.up {d : D} {N : Nat} {h h' : Heap} {v : Value} {st en : Nat} (T : RowAt d N h v st en) (u : h.StaysIn h') : RowAt d N h' v st en :=
  let ⟨r, ta, tb, pv, ps, pe, e1, e2, e3, e4, e5, e6, e7⟩ := T; ⟨r, ta, tb, pv, ps, pe, e1, u _ _ e2, e3, e4, e5, e6, e7.up u⟩
def RowsAt (d : D) (N : Nat) (h : Heap) (rv : List Value) : Prop := ∀ (i : Nat) (v : Value), rv[i]? = some v → ∃ st en, RowAt d N h v st en
theorem RowsAt.up {d : D} {N : Nat} {h h' : Heap} {rv : List Value} (T : RowsAt d N h rv) (u : h.StaysIn h') : RowsAt d N h' rv := fun i v e => let ⟨a, b, c⟩ := T i v e; ⟨a, b, c.up u⟩
theorem RowsAt.snoc {d : D} {N : Nat} {h : Heap} {rv : List Value} {v : Value} {st en : Nat} (T : RowsAt d N h rv) (r : RowAt d N h v st en) : RowsAt d N h (rv ++ [v]) := fun i u e => by
  by_cases q : i < rv.length
  · rw [List.getElem?_append_left q] at e; exact T i u e
  · rw [List.getElem?_append_right (by omega)] at e
    cases k : i - rv.length with
    | zero => rw [k] at e; simp at e; subst e; exact ⟨_, _, r⟩
    | succ n => rw [k] at e; simp at e
/-- between two turns of the law's loops -/
inductive LJ (g S0 : Heap) (d : D) (N : Nat) (ws ss : List Value) (kw : Nat) (c4 c1 : Obj) (L' hand words scr rl a x pl : Addr) (k0 : Int) (i : Nat) (mm : Str → Option Value) (cs : List (Addr × Obj)) : Prop
  | mk (S : Heap) (rv : List Value) (er kh : Nat) (k b : Int) (ta tb : Tok) (c3 c2 : Obj) (f19 : mm (Str.ofString "rows") = some (.ref rl)) (f29 : mm (Str.ofString "parts") = some (.ref pl)) (f39 : mm (Str.ofString "tree") = some (.ref x)) (f49 : mm (Str.ofString "drawn") = some (.ref a)) (f59 : mm (Str.ofString "hand") = some (.ref hand)) (f69 : cs = [(rl, W.listOf rv.toArray er), (hand, W.listOf #[.ref scr, .int k ta, .int b tb] kh), (words, W.listOf ws.toArray kw), (scr, W.listOf ss.toArray 0), (L' + 1 + 1 + 1 + 1, c4), (L' + 1 + 1 + 1, c3), (L' + 1 + 1, c2), (L' + 1, c1)] ++ frz g S) (f79 : (∃ u, c3.data = .cell u)) (f89 : (∃ u, c2.data = .cell u)) (f99 : S0.StaysIn S) (f109 : g.StaysIn S) (f119 : S.get? L' = none) (f129 : (∀ q ∈ [rl, hand, words, scr, L' + 1 + 1 + 1 + 1, L' + 1 + 1 + 1, L' + 1 + 1, L' + 1], S.get? q = none)) (f139 : rv.length = i) (f149 : RowsAt d N (newer g S) rv) (f159 : 0 ≤ k) (f169 : k ≤ k0 + 2 * (i : Int)) : LJ g S0 d N ws ss kw c4 c1 L' hand words scr rl a x pl k0 i mm cs
/-- between two turns of the law's second loop -/
inductive LK (g S0 : Heap) (ws : List Value) (kw : Nat) (c1 : Obj) (rv : List Value) (er : Nat) (oh osc : Obj) (pre : List (Addr × Obj)) (L' hand words scr rl a x : Addr) (mm : Str → Option Value) (cs : List (Addr × Obj)) : Prop
  | mk (S : Heap) (c4 c3 c2 : Obj) (f19 : mm (Str.ofString "rows") = some (.ref rl)) (f29 : mm (Str.ofString "tree") = some (.ref x)) (f39 : mm (Str.ofString "drawn") = some (.ref a)) (f49 : cs = pre ++ ([(rl, W.listOf rv.toArray er), (hand, oh), (words, W.listOf ws.toArray kw), (scr, osc), (L' + 1 + 1 + 1 + 1, c4), (L' + 1 + 1 + 1, c3), (L' + 1 + 1, c2), (L' + 1, c1)] ++ frz g S)) (f59 : (∃ u, c4.data = .cell u)) (f69 : (∃ u, c3.data = .cell u)) (f79 : (∃ u, c2.data = .cell u)) (f89 : S0.StaysIn S) (f99 : g.StaysIn S) (f109 : S.get? L' = none) (f119 : (∀ q ∈ [rl, hand, words, scr, L' + 1 + 1 + 1 + 1, L' + 1 + 1 + 1, L' + 1 + 1, L' + 1], S.get? q = none)) (f129 : ∀ p ∈ pre, S.get? p.1 = none) : LK g S0 ws kw c1 rv er oh osc pre L' hand words scr rl a x mm cs
namespace CL3
noncomputable section
abbrev Tup : Type := (World) × (Shared) × (ExcName → Option Value) × (Str → Option Value) × (Str → Option Value) × (Addr) × (Addr) × (Addr) × (Addr) × (Addr) × (Addr) × (Addr) × (Value) × (Value) × (Value) × (Value) × (Value) × (Value) × (Value) × (Option Addr) × (Option Addr) × (Str) × (Str) × (Arguments) × (List Stmt) × (Scope) × (Array (Option Value)) × (Heap) × (Heap) × (Array GenState) × (Tok) × (Str → Option Value) × (Nat) × (Nat) × (Nat) × (List Value) × (List Value) × (Obj) × (Obj) × (Obj) × (Obj) × (Obj) × (Obj) × (Str) × (List D) × (Flow → Shared → Prop) × (Value → Shared → Prop)
def Pp : Tup → Prop := fun tt9 => (fun (w : World) (s : Shared) (mean : ExcName → Option Value) (mg : Str → Option Value) (mb : Str → Option Value) (L' : Addr) (hand : Addr) (words : Addr) (scr : Addr) (rl : Addr) (a : Addr) (x : Addr) (oc : Value) (dV : Value) (kV : Value) (doc : Value) (pm : Value) (cdv : Value) (ct : Value) (od : Option Addr) (an : Option Addr) (name : Str) (qual : Str) (params : Arguments) (body : List Stmt) (scope : Scope) (osl : Array (Option Value)) (h8 : Heap) (S : Heap) (gs : Array GenState) (tk : Tok) (mm : Str → Option Value) (kw : Nat) (er : Nat) (N : Nat) (ws : List Value) (rv : List Value) (c4 : Obj) (c3 : Obj) (c2 : Obj) (c1 : Obj) (oh : Obj) (osc : Obj) (lab : Str) (ds : List D) (Q : Flow → Shared → Prop) (E : Value → Shared → Prop) => ∀ (X : (hd.heap_1 w.params).In s.heap) (T : TopH mean mg mb s.heap) (ho : (hd.heap_1 w.params).lookup 199 = some ⟨oc, od, .func (fnOf name qual params body scope dV kV doc pm an cdv ct), osl⟩) (m1 : mm (Str.ofString "rows") = some (.ref rl)) (m2 : mm (Str.ofString "tree") = some (.ref x)) (m3 : mm (Str.ofString "drawn") = some (.ref a)) (F0 : Fr s.heap L' h8 mm) (N0 : News s.heap L' h8 ([(rl, W.listOf rv.toArray er), (hand, oh), (words, W.listOf ws.toArray kw), (scr, osc), (L' + 1 + 1 + 1 + 1, c4), (L' + 1 + 1 + 1, c3), (L' + 1 + 1, c2), (L' + 1, c1)] ++ frz s.heap S)) (hc1 : c1.data = .cell (some (.ref words))) (hc4 : ∃ u, c4.data = .cell u) (hc3 : ∃ u, c3.data = .cell u) (hc2 : ∃ u, c2.data = .cell u) (uS : s.heap.StaysIn S) (sL : S.get? L' = none) (soff : ∀ q ∈ [rl, hand, words, scr, L' + 1 + 1 + 1 + 1, L' + 1 + 1 + 1, L' + 1 + 1, L' + 1], S.get? q = none) (a1 : (L' + 1 + 1 + 1 + 1 : Nat) < scr) (a2 : (scr : Nat) < hand) (a3 : (hand : Nat) < words) (a5 : (words : Nat) < rl) (dB : DrawnAt (newer s.heap S) (.ref a) (.node lab ds)) (tT : TreeAt w (newer s.heap S) (.ref x) (.node lab ds)) (dlv : (D.node lab ds).leaves = List.range N) (hN : 0 < N) (hW : Words ws (List.range N)) (dht : (D.node lab ds).ht ≤ 5) (dsz : (D.node lab ds).size ≤ 400) (hrv : rv.length = 3) (hrows : RowsAt (.node lab ds) N (newer s.heap S) rv) (hQ : ∀ h' tk', s.heap.StaysIn h' → Q (.ret (.bool true)) { s with heap := h', gens := gs, toks := tk' }), wpAny (model prog w) (callerA.deeper (envOfC qual scope L' 199 cdv)) (execs (body.drop 8) (envOfC qual scope L' 199 cdv)) Q E { s with heap := h8, gens := gs, toks := tk }) tt9.1 tt9.2.1 tt9.2.2.1 tt9.2.2.2.1 tt9.2.2.2.2.1 tt9.2.2.2.2.2.1 tt9.2.2.2.2.2.2.1 tt9.2.2.2.2.2.2.2.1 tt9.2.2.2.2.2.2.2.2.1 tt9.2.2.2.2.2.2.2.2.2.1 tt9.2.2.2.2.2.2.2.2.2.2.1 tt9.2.2.2.2.2.2.2.2.2.2.2.1 tt9.2.2.2.2.2.2.2.2.2.2.2.2.1 tt9.2.2.2.2.2.2.2.2.2.2.2.2.2.1 tt9.2.2.2.2.2.2.2.2.2.2.2.2.2.2.1 tt9.2.2.2.2.2.2.2.2.2.2.2.2.2.2.2.1 tt9.2.2.2.2.2.2.2.2.2.2.2.2.2.2.2.2.1 tt9.2.2.2.2.2.2.2.2.2.2.2.2.2.2.2.2.2.1 tt9.2.2.2.2.2.2.2.2.2.2.2.2.2.2.2.2.2.2.1 tt9.2.2.2.2.2.2.2.2.2.2.2.2.2.2.2.2.2.2.2.1 tt9.2.2.2.2.2.2.2.2.2.2.2.2.2.2.2.2.2.2.2.2.1 tt9.2.2.2.2.2.2.2.2.2.2.2.2.2.2.2.2.2.2.2.2.2.1 tt9.2.2.2.2.2.2.2.2.2.2.2.2.2.2.2.2.2.2.2.2.2.2.1 tt9.2.2.2.2.2.2.2.2.2.2.2.2.2.2.2.2.2.2.2.2.2.2.2.1 tt9.2.2.2.2.2.2.2.2.2.2.2.2.2.2.2.2.2.2.2.2.2.2.2.2.1 tt9.2.2.2.2.2.2.2.2.2.2.2.2.2.2.2.2.2.2.2.2.2.2.2.2.2.1 tt9.2.2.2.2.2.2.2.2.2.2.2.2.2.2.2.2.2.2.2.2.2.2.2.2.2.2.1 tt9.2.2.2.2.2.2.2.2.2.2.2.2.2.2.2.2.2.2.2.2.2.2.2.2.2.2.2.1 tt9.2.2.2.2.2.2.2.2.2.2.2.2.2.2.2.2.2.2.2.2.2.2.2.2.2.2.2.2.1 tt9.2.2.2.2.2.2.2.2.2.2.2.2.2.2.2.2.2.2.2.2.2.2.2.2.2.2.2.2.2.1 tt9.2.2.2.2.2.2.2.2.2.2.2.2.2.2.2.2.2.2.2.2.2.2.2.2.2.2.2.2.2.2.1 tt9.2.2.2.2.2.2.2.2.2.2.2.2.2.2.2.2.2.2.2.2.2.2.2.2.2.2.2.2.2.2.2.1 tt9.2.2.2.2.2.2.2.2.2.2.2.2.2.2.2.2.2.2.2.2.2.2.2.2.2.2.2.2.2.2.2.2.1 tt9.2.2.2.2.2.2.2.2.2.2.2.2.2.2.2.2.2.2.2.2.2.2.2.2.2.2.2.2.2.2.2.2.2.1 tt9.2.2.2.2.2.2.2.2.2.2.2.2.2.2.2.2.2.2.2.2.2.2.2.2.2.2.2.2.2.2.2.2.2.2.1 tt9.2.2.2.2.2.2.2.2.2.2.2.2.2.2.2.2.2.2.2.2.2.2.2.2.2.2.2.2.2.2.2.2.2.2.2.1 tt9.2.2.2.2.2.2.2.2.2.2.2.2.2.2.2.2.2.2.2.2.2.2.2.2.2.2.2.2.2.2.2.2.2.2.2.2.1 tt9.2.2.2.2.2.2.2.2.2.2.2.2.2.2.2.2.2.2.2.2.2.2.2.2.2.2.2.2.2.2.2.2.2.2.2.2.2.1 tt9.2.2.2.2.2.2.2.2.2.2.2.2.2.2.2.2.2.2.2.2.2.2.2.2.2.2.2.2.2.2.2.2.2.2.2.2.2.2.1 tt9.2.2.2.2.2.2.2.2.2.2.2.2.2.2.2.2.2.2.2.2.2.2.2.2.2.2.2.2.2.2.2.2.2.2.2.2.2.2.2.1 tt9.2.2.2.2.2.2.2.2.2.2.2.2.2.2.2.2.2.2.2.2.2.2.2.2.2.2.2.2.2.2.2.2.2.2.2.2.2.2.2.2.1 tt9.2.2.2.2.2.2.2.2.2.2.2.2.2.2.2.2.2.2.2.2.2.2.2.2.2.2.2.2.2.2.2.2.2.2.2.2.2.2.2.2.2.1 tt9.2.2.2.2.2.2.2.2.2.2.2.2.2.2.2.2.2.2.2.2.2.2.2.2.2.2.2.2.2.2.2.2.2.2.2.2.2.2.2.2.2.2.1 tt9.2.2.2.2.2.2.2.2.2.2.2.2.2.2.2.2.2.2.2.2.2.2.2.2.2.2.2.2.2.2.2.2.2.2.2.2.2.2.2.2.2.2.2.1 tt9.2.2.2.2.2.2.2.2.2.2.2.2.2.2.2.2.2.2.2.2.2.2.2.2.2.2.2.2.2.2.2.2.2.2.2.2.2.2.2.2.2.2.2.2.1 tt9.2.2.2.2.2.2.2.2.2.2.2.2.2.2.2.2.2.2.2.2.2.2.2.2.2.2.2.2.2.2.2.2.2.2.2.2.2.2.2.2.2.2.2.2.2.1 tt9.2.2.2.2.2.2.2.2.2.2.2.2.2.2.2.2.2.2.2.2.2.2.2.2.2.2.2.2.2.2.2.2.2.2.2.2.2.2.2.2.2.2.2.2.2.2
def cc : Tup := @Classical.epsilon Tup (nePair neWorld (nePair neShared (nePair (⟨default⟩ : Nonempty (ExcName → Option Value)) (nePair (⟨default⟩ : Nonempty (Str → Option Value)) (nePair (⟨default⟩ : Nonempty (Str → Option Value)) (nePair (⟨default⟩ : Nonempty (Addr)) (nePair (⟨default⟩ : Nonempty (Addr)) (nePair (⟨default⟩ : Nonempty (Addr)) (nePair (⟨default⟩ : Nonempty (Addr)) (nePair (⟨default⟩ : Nonempty (Addr)) (nePair (⟨default⟩ : Nonempty (Addr)) (nePair (⟨default⟩ : Nonempty (Addr)) (nePair (⟨default⟩ : Nonempty (Value)) (nePair (⟨default⟩ : Nonempty (Value)) (nePair (⟨default⟩ : Nonempty (Value)) (nePair (⟨default⟩ : Nonempty (Value)) (nePair (⟨default⟩ : Nonempty (Value)) (nePair (⟨default⟩ : Nonempty (Value)) (nePair (⟨default⟩ : Nonempty (Value)) (nePair (⟨default⟩ : Nonempty (Option Addr)) (nePair (⟨default⟩ : Nonempty (Option Addr)) (nePair (⟨default⟩ : Nonempty (Str)) (nePair (⟨default⟩ : Nonempty (Str)) (nePair (⟨default⟩ : Nonempty (Arguments)) (nePair (⟨default⟩ : Nonempty (List Stmt)) (nePair (⟨default⟩ : Nonempty (Scope)) (nePair (⟨default⟩ : Nonempty (Array (Option Value))) (nePair (⟨default⟩ : Nonempty (Heap)) (nePair (⟨default⟩ : Nonempty (Heap)) (nePair (⟨default⟩ : Nonempty (Array GenState)) (nePair (⟨default⟩ : Nonempty (Tok)) (nePair (⟨default⟩ : Nonempty (Str → Option Value)) (nePair (⟨default⟩ : Nonempty (Nat)) (nePair (⟨default⟩ : Nonempty (Nat)) (nePair (⟨default⟩ : Nonempty (Nat)) (nePair (⟨default⟩ : Nonempty (List Value)) (nePair (⟨default⟩ : Nonempty (List Value)) (nePair (⟨default⟩ : Nonempty (Obj)) (nePair (⟨default⟩ : Nonempty (Obj)) (nePair (⟨default⟩ : Nonempty (Obj)) (nePair (⟨default⟩ : Nonempty (Obj)) (nePair (⟨default⟩ : Nonempty (Obj)) (nePair (⟨default⟩ : Nonempty (Obj)) (nePair (⟨default⟩ : Nonempty (Str)) (nePair (⟨default⟩ : Nonempty (List D)) (nePair (⟨default⟩ : Nonempty (Flow → Shared → Prop)) (⟨default⟩ : Nonempty (Value → Shared → Prop)))))))))))))))))))))))))))))))))))))))))))))))) fun t => ¬ Pp t
def w : World := cc.1
def s : Shared := cc.2.1
def mean : ExcName → Option Value := cc.2.2.1
def mg : Str → Option Value := cc.2.2.2.1
def mb : Str → Option Value := cc.2.2.2.2.1
def L' : Addr := cc.2.2.2.2.2.1
def hand : Addr := cc.2.2.2.2.2.2.1
def words : Addr := cc.2.2.2.2.2.2.2.1
def scr : Addr := cc.2.2.2.2.2.2.2.2.1
def rl : Addr := cc.2.2.2.2.2.2.2.2.2.1
def a : Addr := cc.2.2.2.2.2.2.2.2.2.2.1
def x : Addr := cc.2.2.2.2.2.2.2.2.2.2.2.1
def oc : Value := cc.2.2.2.2.2.2.2.2.2.2.2.2.1
def dV : Value := cc.2.2.2.2.2.2.2.2.2.2.2.2.2.1
def kV : Value := cc.2.2.2.2.2.2.2.2.2.2.2.2.2.2.1
def doc : Value := cc.2.2.2.2.2.2.2.2.2.2.2.2.2.2.2.1
def pm : Value := cc.2.2.2.2.2.2.2.2.2.2.2.2.2.2.2.2.1
def cdv : Value := cc.2.2.2.2.2.2.2.2.2.2.2.2.2.2.2.2.2.1
def ct : Value := cc.2.2.2.2.2.2.2.2.2.2.2.2.2.2.2.2.2.2.1
def od : Option Addr := cc.2.2.2.2.2.2.2.2.2.2.2.2.2.2.2.2.2.2.2.1
def an : Option Addr := cc.2.2.2.2.2.2.2.2.2.2.2.2.2.2.2.2.2.2.2.2.1
def name : Str := cc.2.2.2.2.2.2.2.2.2.2.2.2.2.2.2.2.2.2.2.2.2.1
def qual : Str := cc.2.2.2.2.2.2.2.2.2.2.2.2.2.2.2.2.2.2.2.2.2.2.1
def params : Arguments := cc.2.2.2.2.2.2.2.2.2.2.2.2.2.2.2.2.2.2.2.2.2.2.2.1
def body : List Stmt := cc.2.2.2.2.2.2.2.2.2.2.2.2.2.2.2.2.2.2.2.2.2.2.2.2.1
def scope : Scope := cc.2.2.2.2.2.2.2.2.2.2.2.2.2.2.2.2.2.2.2.2.2.2.2.2.2.1
def osl : Array (Option Value) := cc.2.2.2.2.2.2.2.2.2.2.2.2.2.2.2.2.2.2.2.2.2.2.2.2.2.2.1
def h8 : Heap := cc.2.2.2.2.2.2.2.2.2.2.2.2.2.2.2.2.2.2.2.2.2.2.2.2.2.2.2.1
def S : Heap := cc.2.2.2.2.2.2.2.2.2.2.2.2.2.2.2.2.2.2.2.2.2.2.2.2.2.2.2.2.1
def gs : Array GenState := cc.2.2.2.2.2.2.2.2.2.2.2.2.2.2.2.2.2.2.2.2.2.2.2.2.2.2.2.2.2.1
def tk : Tok := cc.2.2.2.2.2.2.2.2.2.2.2.2.2.2.2.2.2.2.2.2.2.2.2.2.2.2.2.2.2.2.1
def mm : Str → Option Value := cc.2.2.2.2.2.2.2.2.2.2.2.2.2.2.2.2.2.2.2.2.2.2.2.2.2.2.2.2.2.2.2.1
def kw : Nat := cc.2.2.2.2.2.2.2.2.2.2.2.2.2.2.2.2.2.2.2.2.2.2.2.2.2.2.2.2.2.2.2.2.1
def er : Nat := cc.2.2.2.2.2.2.2.2.2.2.2.2.2.2.2.2.2.2.2.2.2.2.2.2.2.2.2.2.2.2.2.2.2.1
def N : Nat := cc.2.2.2.2.2.2.2.2.2.2.2.2.2.2.2.2.2.2.2.2.2.2.2.2.2.2.2.2.2.2.2.2.2.2.1
def ws : List Value := cc.2.2.2.2.2.2.2.2.2.2.2.2.2.2.2.2.2.2.2.2.2.2.2.2.2.2.2.2.2.2.2.2.2.2.2.1
def rv : List Value := cc.2.2.2.2.2.2.2.2.2.2.2.2.2.2.2.2.2.2.2.2.2.2.2.2.2.2.2.2.2.2.2.2.2.2.2.2.1
def c4 : Obj := cc.2.2.2.2.2.2.2.2.2.2.2.2.2.2.2.2.2.2.2.2.2.2.2.2.2.2.2.2.2.2.2.2.2.2.2.2.2.1
def c3 : Obj := cc.2.2.2.2.2.2.2.2.2.2.2.2.2.2.2.2.2.2.2.2.2.2.2.2.2.2.2.2.2.2.2.2.2.2.2.2.2.2.1
def c2 : Obj := cc.2.2.2.2.2.2.2.2.2.2.2.2.2.2.2.2.2.2.2.2.2.2.2.2.2.2.2.2.2.2.2.2.2.2.2.2.2.2.2.1
def c1 : Obj := cc.2.2.2.2.2.2.2.2.2.2.2.2.2.2.2.2.2.2.2.2.2.2.2.2.2.2.2.2.2.2.2.2.2.2.2.2.2.2.2.2.1
def oh : Obj := cc.2.2.2.2.2.2.2.2.2.2.2.2.2.2.2.2.2.2.2.2.2.2.2.2.2.2.2.2.2.2.2.2.2.2.2.2.2.2.2.2.2.1
def osc : Obj := cc.2.2.2.2.2.2.2.2.2.2.2.2.2.2.2.2.2.2.2.2.2.2.2.2.2.2.2.2.2.2.2.2.2.2.2.2.2.2.2.2.2.2.1
def lab : Str := cc.2.2.2.2.2.2.2.2.2.2.2.2.2.2.2.2.2.2.2.2.2.2.2.2.2.2.2.2.2.2.2.2.2.2.2.2.2.2.2.2.2.2.2.1
def ds : List D := cc.2.2.2.2.2.2.2.2.2.2.2.2.2.2.2.2.2.2.2.2.2.2.2.2.2.2.2.2.2.2.2.2.2.2.2.2.2.2.2.2.2.2.2.2.1
def Q : Flow → Shared → Prop := cc.2.2.2.2.2.2.2.2.2.2.2.2.2.2.2.2.2.2.2.2.2.2.2.2.2.2.2.2.2.2.2.2.2.2.2.2.2.2.2.2.2.2.2.2.2.1
def E : Value → Shared → Prop := cc.2.2.2.2.2.2.2.2.2.2.2.2.2.2.2.2.2.2.2.2.2.2.2.2.2.2.2.2.2.2.2.2.2.2.2.2.2.2.2.2.2.2.2.2.2.2
theorem core (X : (hd.heap_1 w.params).In s.heap) (T : TopH mean mg mb s.heap) (ho : (hd.heap_1 w.params).lookup 199 = some ⟨oc, od, .func (fnOf name qual params body scope dV kV doc pm an cdv ct), osl⟩) (m1 : mm (Str.ofString "rows") = some (.ref rl)) (m2 : mm (Str.ofString "tree") = some (.ref x)) (m3 : mm (Str.ofString "drawn") = some (.ref a)) (F0 : Fr s.heap L' h8 mm) (N0 : News s.heap L' h8 ([(rl, W.listOf rv.toArray er), (hand, oh), (words, W.listOf ws.toArray kw), (scr, osc), (L' + 1 + 1 + 1 + 1, c4), (L' + 1 + 1 + 1, c3), (L' + 1 + 1, c2), (L' + 1, c1)] ++ frz s.heap S)) (hc1 : c1.data = .cell (some (.ref words))) (hc4 : ∃ u, c4.data = .cell u) (hc3 : ∃ u, c3.data = .cell u) (hc2 : ∃ u, c2.data = .cell u) (uS : s.heap.StaysIn S) (sL : S.get? L' = none) (soff : ∀ q ∈ [rl, hand, words, scr, L' + 1 + 1 + 1 + 1, L' + 1 + 1 + 1, L' + 1 + 1, L' + 1], S.get? q = none) (a1 : (L' + 1 + 1 + 1 + 1 : Nat) < scr) (a2 : (scr : Nat) < hand) (a3 : (hand : Nat) < words) (a5 : (words : Nat) < rl) (dB : DrawnAt (newer s.heap S) (.ref a) (.node lab ds)) (tT : TreeAt w (newer s.heap S) (.ref x) (.node lab ds)) (dlv : (D.node lab ds).leaves = List.range N) (hN : 0 < N) (hW : Words ws (List.range N)) (dht : (D.node lab ds).ht ≤ 5) (dsz : (D.node lab ds).size ≤ 400) (hrv : rv.length = 3) (hrows : RowsAt (.node lab ds) N (newer s.heap S) rv) (hQ : ∀ h' tk', s.heap.StaysIn h' → Q (.ret (.bool true)) { s with heap := h', gens := gs, toks := tk' }) : wpAny (model prog w) (callerA.deeper (envOfC qual scope L' 199 cdv)) (execs (body.drop 8) (envOfC qual scope L' 199 cdv)) Q E { s with heap := h8, gens := gs, toks := tk } := by
  k_dflt refine' law_same ho ?k (fun qual body scope cdv => wpAny (model prog w) (callerA.deeper (envOfC qual scope L' 199 cdv)) (execs (body.drop 8) (envOfC qual scope L' 199 cdv)) Q E { s with heap := h8, gens := gs, toks := tk }) ?main
  case k => k_is
  clear ho
  have a1 := ltN a1
  have a2 := ltN a2
  have a3 := ltN a3
  have a5 := ltN a5
  dsimp only [List.drop]
  have hm := over3 m1 m2 m3
  rw [hm] at F0
  replace F0 : Fr s.heap L' h8 _ := F0
  clear hm
  have N1 := N0
  clear N0
  k_steps
  refine Stop.mk (wpAny_For ?_)
  k_steps
  rename Fr _ _ _ _ => F1
  rename News _ _ _ _ => N1
  rename IsRange _ _ _ _ _ _ _ _ => hR
  have hrs : Builtin.Range.rangeSize 0 3 1 = ((3 : Nat) : Int) := by rfl
  have hsm : Builtin.Range.small 0 3 1 = true := by rfl
  k_dflt refine' (Stop.mk (forRange F1 N1 rfl hR hsm hrs rfl rfl
    (fun i mm cs => LK s.heap S ws kw c1 rv er oh osc [] L' hand words scr rl a x mm cs)
    ⟨S, c4, c3, c2, rfl, rfl, rfl, rfl, hc4, hc3, hc2, stays_refl _, uS, sL, soff, fun p hp => nomatch hp⟩ ?_ ?_))
  · rintro j tj mm2 cs h tk1 I oI hj ⟨S2, c4', c3', c2', m1', m2', m3', rfl, hu4, hu3, hu2, uS2, gS2, sL2, soff2, _⟩ hcI F2 N2
    rw [over3 m1' m2' m3', show (0 : Int) + (j : Int) * 1 = (j : Int) by omega] at F2
    replace F2 : Fr s.heap L' h _ := F2
    replace N2 : News s.heap L' h _ := N2
    have gI := (N2 _ (.head _)).2.2
    have sI : S2.get? I = none := by
      cases e : S2.get? I with
      | none => rfl
      | some o => exact absurd rfl (hcI (I, o) (List.mem_append_right _ (List.mem_append_right _ (mem_frz.mpr ⟨gI, e⟩))))
    clear F1 N1 m1' m2' m3' hR
    (with_reducible show wpAny _ _ _ _ _ _); k_fold
    k_steps
    refine Stop.mk (wpAny_For ?_)
    k_steps
    rename Fr _ _ _ _ => F3
    rename News _ _ _ _ => N3
    rename IsRange _ _ _ _ _ _ _ _ => hR
    have hrs2 : Builtin.Range.rangeSize 0 (j : Int) 1 = (j : Int) := by rw [rangeSize_one]; split <;> omega
    have hsm2 : Builtin.Range.small 0 (j : Int) 1 = true := small_one (by omega) (by omega) (by omega) (by omega)
    k_dflt refine' (Stop.mk (forRange F3 N3 rfl hR hsm2 hrs2 rfl rfl
      (fun i mm cs => mm (Str.ofString "j") = some (.int (j : Int) tj) ∧ LK s.heap S ws kw c1 rv er oh osc [(I, oI)] L' hand words scr rl a x mm cs)
      ⟨rfl, S2, c4', c3', c2', rfl, rfl, rfl, rfl, hu4, hu3, hu2, uS2, gS2, sL2, soff2, fun p hp => by rw [List.mem_singleton.mp hp]; exact sI⟩ ?_ ?_))
    · skip --B3
      rintro k tk' mm3 cs3 h3 tk3 I2 oI2 hk ⟨mj, S3, d4, d3, d2, n1, n2, n3, rfl, ⟨u4, hu4⟩, ⟨u3, hu3⟩, ⟨u2, hu2⟩, uS3, gS3, sL3, soff3, sI3⟩ hcI2 F4 N4
      rw [over4 mj n1 n2 n3, show (0 : Int) + (k : Int) * 1 = (k : Int) by omega] at F4
      replace F4 : Fr s.heap L' h3 _ := F4
      replace N4 : News s.heap L' h3 ((I2, oI2) :: (I, oI) :: (rl, W.listOf rv.toArray er) :: (hand, oh) :: (words, W.listOf ws.toArray kw) :: (scr, osc) :: (L' + 1 + 1 + 1 + 1, d4) :: (L' + 1 + 1 + 1, d3) :: (L' + 1 + 1, d2) :: (L' + 1, c1) :: frz s.heap S3) := N4
      have sJ := sI3 _ (.head _)
      have gI2 := (N4 _ (.head _)).2.2
      have sI2 : S3.get? I2 = none := by
        cases e : S3.get? I2 with
        | none => rfl
        | some o => exact absurd rfl (hcI2 (I2, o) (List.mem_append_right _ (List.mem_append_right _ (mem_frz.mpr ⟨gI2, e⟩))))
      clear F3 N3 mj n1 n2 n3 hR
      have b0 := neN (hcI2 _ (.head _))
      have b1 := neN (hcI2 _ (.tail _ (.head _)))
      have b2 := neN (hcI2 _ (.tail _ (.tail _ (.head _))))
      have b3 := neN (hcI2 _ (.tail _ (.tail _ (.tail _ (.head _)))))
      have b4 := neN (hcI2 _ (.tail _ (.tail _ (.tail _ (.tail _ (.head _))))))
      have b5 := neN (hcI2 _ (.tail _ (.tail _ (.tail _ (.tail _ (.tail _ (.head _)))))))
      have b6 := neN (hcI2 _ (.tail _ (.tail _ (.tail _ (.tail _ (.tail _ (.tail _ (.head _))))))))
      have b7 := neN (hcI2 _ (.tail _ (.tail _ (.tail _ (.tail _ (.tail _ (.tail _ (.tail _ (.head _)))))))))
      have b8 := neN (hcI2 _ (.tail _ (.tail _ (.tail _ (.tail _ (.tail _ (.tail _ (.tail _ (.tail _ (.head _))))))))))
      have e1 := neN (hcI _ (.head _))
      have e2 := neN (hcI _ (.tail _ (.head _)))
      have e3 := neN (hcI _ (.tail _ (.tail _ (.head _))))
      have e4 := neN (hcI _ (.tail _ (.tail _ (.tail _ (.head _)))))
      have e5 := neN (hcI _ (.tail _ (.tail _ (.tail _ (.tail _ (.head _))))))
      have e6 := neN (hcI _ (.tail _ (.tail _ (.tail _ (.tail _ (.tail _ (.head _)))))))
      have e7 := neN (hcI _ (.tail _ (.tail _ (.tail _ (.tail _ (.tail _ (.tail _ (.head _))))))))
      have e8 := neN (hcI _ (.tail _ (.tail _ (.tail _ (.tail _ (.tail _ (.tail _ (.tail _ (.head _)))))))))
      dsimp only at b0 b1 b2 b3 b4 b5 b6 b7 b8 e1 e2 e3 e4 e5 e6 e7 e8 sJ
      have fin : ∀ (h' : Heap) (tk' : Nat) (mm' : Str → Option Value) (S' : Heap) (d4' d3' d2' : Obj), Fr s.heap L' h' mm' → mm' (Str.ofString "rows") = some (Value.ref rl) → mm' (Str.ofString "tree") = some (Value.ref x) → mm' (Str.ofString "drawn") = some (Value.ref a) → mm' (Str.ofString "j") = some (Value.int (j : Int) tj) →
          News s.heap L' h' ((I2, oI2) :: (I, oI) :: (rl, W.listOf rv.toArray er) :: (hand, oh) :: (words, W.listOf ws.toArray kw) :: (scr, osc) :: (L' + 1 + 1 + 1 + 1, d4') :: (L' + 1 + 1 + 1, d3') :: (L' + 1 + 1, d2') :: (L' + 1, c1) :: frz s.heap S') →
          (∃ u, d4'.data = .cell u) → (∃ u, d3'.data = .cell u) → (∃ u, d2'.data = .cell u) → S.StaysIn S' → s.heap.StaysIn S' → S'.get? L' = none → (∀ q ∈ [I2, I, rl, hand, words, scr, L' + 1 + 1 + 1 + 1, L' + 1 + 1 + 1, L' + 1 + 1, L' + 1], S'.get? q = none) →
          Stop (∃ h'' tk'' m' cs', ({ s with heap := h', gens := gs, toks := tk' } : Shared) = { s with heap := h'', gens := gs, toks := tk'' } ∧ Fr s.heap L' h'' m' ∧ News s.heap L' h'' ((I2, oI2) :: cs') ∧ (∀ p ∈ cs', p.1 ≠ I2) ∧
            m' (Str.ofString "j") = some (Value.int (j : Int) tj) ∧ LK s.heap S ws kw c1 rv er oh osc [(I, oI)] L' hand words scr rl a x m' cs') := by
        intro h' tk' mm' S' d4' d3' d2' Fx f1 f2 f3 f4 Nx f5 f6 f7 f8 f9 f10 f11
        refine Stop.mk ⟨h', tk', mm', _, rfl, Fx, Nx, fun p hp => ?_, f4, S', d4', d3', d2', f1, f2, f3, rfl, f5, f6, f7, f8, f9, f10, fun q hq => f11 q (.tail _ (.tail _ hq)), fun p hp => by rw [List.mem_singleton.mp hp]; exact f11 I (.tail _ (.head _))⟩
        rcases List.mem_cons.mp hp with rfl | hp
        · exact b0
        rcases List.mem_cons.mp hp with rfl | hp
        · exact b1
        rcases List.mem_cons.mp hp with rfl | hp
        · exact b2
        rcases List.mem_cons.mp hp with rfl | hp
        · exact b3
        rcases List.mem_cons.mp hp with rfl | hp
        · exact b4
        rcases List.mem_cons.mp hp with rfl | hp
        · exact b5
        rcases List.mem_cons.mp hp with rfl | hp
        · exact b6
        rcases List.mem_cons.mp hp with rfl | hp
        · exact b7
        rcases List.mem_cons.mp hp with rfl | hp
        · exact b8
        exact frz_off (f11 I2 (.head _)) p hp
      have s1 := soff3 rl (.head _)
      have s2 := soff3 hand (.tail _ (.head _))
      have s3 := soff3 words (.tail _ (.tail _ (.head _)))
      have s4 := soff3 scr (.tail _ (.tail _ (.tail _ (.head _))))
      have s5 := soff3 (L' + 1 + 1 + 1 + 1) (.tail _ (.tail _ (.tail _ (.tail _ (.head _)))))
      have s6 := soff3 (L' + 1 + 1 + 1) (.tail _ (.tail _ (.tail _ (.tail _ (.tail _ (.head _))))))
      have s7 := soff3 (L' + 1 + 1) (.tail _ (.tail _ (.tail _ (.tail _ (.tail _ (.tail _ (.head _)))))))
      have hwl : ws.length = N := by rw [hW.length, List.length_range]
      have hNz : N ≤ 400 := by
        have := leaves_le_size (.node lab ds)
        rw [dlv, List.length_range] at this
        omega
      have up3 : (newer s.heap S).StaysIn (newer s.heap S3) := newer_up (stays_refl s.heap) uS3
      obtain ⟨v1, hv1⟩ : ∃ v, rv[k]? = some v := ⟨_, List.getElem?_eq_getElem (by omega)⟩
      obtain ⟨v2, hv2⟩ : ∃ v, rv[j]? = some v := ⟨_, List.getElem?_eq_getElem (by omega)⟩
      obtain ⟨st1, en1, r1, ta1, tb1, pv1, ps1, pe1, rfl, hr1, hse1, hen1, hps1, hpe1, pa1, xs1, rfl, hpa1, hxs1⟩ := (hrows k v1 hv1)
      obtain ⟨st2, en2, r2, ta2, tb2, pv2, ps2, pe2, rfl, hr2, hse2, hen2, hps2, hpe2, pa2, xs2, rfl, hpa2, hxs2⟩ := (hrows j v2 hv2)
      have hr1' := newer_sub _ _ _ _ (up3 _ _ hr1)
      have hr2' := newer_sub _ _ _ _ (up3 _ _ hr2)
      have hpa1' := newer_sub _ _ _ _ (up3 _ _ hpa1)
      have hpa2' := newer_sub _ _ _ _ (up3 _ _ hpa2)
      have hrz : rv.length ≤ 1000000 := by omega
      have tT2 := tT.up up3
      have dB2 := dB.up up3
      obtain ⟨dx, u4', u5', u6', cx, hx, hdx⟩ : ∃ dx t1 t2 t3 cx, S3.get? x = some (instObj 145 dx) ∧ S3.get? dx = some (dictOf (treeEs w t1 t2 cx lab t3) 2) := by
        have q := tT2.up (newer_sub _ _)
        cases q with
        | node h1 h2 => exact ⟨_, _, _, _, _, h1, h2⟩
      (with_reducible show wpAny _ _ _ _ _ _); k_fold
      have hmin := minIte st1 st2
      have hmax := maxIte en1 en2
      k_steps
      rename Fr _ _ _ _ => F5
      rename News _ _ _ _ => N5
      rename Obj.data _ = Data.cell (some (Value.int (ite _ _ _) _)) => dE
      revert dE
      rename Obj.data _ = Data.cell (some (Value.int (ite _ _ _) _)) => dS
      intro dE
      rw [hmin] at dS
      rw [hmax] at dE
      rw [hmin, hmax]
      obtain ⟨pm, hpm⟩ := path_ex (d := .node lab ds) (a := min st1 st2) dlv (by omega)
      obtain ⟨px, hpx⟩ := path_ex (d := .node lab ds) (a := max en1 en2) dlv (by omega)
      have uh5 := up_of F5 N5 (fun p hp => .tail _ (.tail _ (.tail _ (.tail _ (.tail _ (.tail _ (.tail _ (.tail _ (.tail _ (.tail _ (.tail _ hp))))))))))) gS3
      k_dflt refine' (Stop.mk (span_ok (.node lab ds) X T F5.keep (show 301 + 1 + 30 < recursionLimit by decide) (cl (4 + 3 + 300) rfl) rfl ((tT2.up (newer_sub _ _)).up uh5) (by omega) hpm hpx ?_ (by omega)))
      intro r8 h8' tk8 kp8 hP
      obtain ⟨F8, N8⟩ := pure_call F5 N5 kp8
      have soff10 : ∀ q ∈ [I2, I, rl, hand, words, scr, L' + 1 + 1 + 1 + 1, L' + 1 + 1 + 1, L' + 1 + 1, L' + 1], S3.get? q = none := fun q hq => by
        rcases List.mem_cons.mp hq with rfl | hq
        · exact sI2
        · rcases List.mem_cons.mp hq with rfl | hq
          · exact sJ
          · exact soff3 q hq
      obtain ⟨S4, N9, z1, z2, z3, z4, z5, z6⟩ := refreezeP [_] [_, _, _, _, _, _, _, _, _, _] [I2, I, rl, hand, words, scr, L' + 1 + 1 + 1 + 1, L' + 1 + 1 + 1, L' + 1 + 1, L' + 1] rfl F8 N8 gS3 sL3 soff10
      have hP4 := hP.up (newer_frzA F5 (News.thereA (AL := [I2, I, rl, hand, words, scr, L' + 1 + 1 + 1 + 1, L' + 1 + 1 + 1, L' + 1 + 1, L' + 1]) (News.sub (news' := [_, _, _, _, _, _, _, _, _, _]) N5 (fun p hp => .tail _ (List.mem_append_left (frz s.heap S3) hp))) rfl) z5)
      obtain ⟨pb, xb, rfl, hpb, hxb⟩ := hP4
      have tT4 := tT2.up (newer_up (stays_refl _) z2)
      have dB4 := dB2.up (newer_up (stays_refl _) z2)
      have hr1' := z2 _ _ hr1'
      have hr2' := z2 _ _ hr2'
      have hpa1' := z2 _ _ hpa1'
      have hpa2' := z2 _ _ hpa2'
      have hx := z2 _ _ hx
      have hdx := z2 _ _ hdx
      have uS4 := stays_trans uS3 z2
      clear N8 F5 N5 hP z5 z6 s1 s2 s3 s4 s5 s6 s7 uh5 tT2 dB2 up3 soff3 sI3 sI2 sJ soff10 gS3 sL3
      have s0 := z4 I2 (.head _)
      have s0' := z4 I (.tail _ (.head _))
      have s1 := z4 rl (.tail _ (.tail _ (.head _)))
      have s2 := z4 hand (.tail _ (.tail _ (.tail _ (.head _))))
      have s3 := z4 words (.tail _ (.tail _ (.tail _ (.tail _ (.head _)))))
      have s4 := z4 scr (.tail _ (.tail _ (.tail _ (.tail _ (.tail _ (.head _))))))
      have s5 := z4 (L' + 1 + 1 + 1 + 1) (.tail _ (.tail _ (.tail _ (.tail _ (.tail _ (.tail _ (.head _)))))))
      have s6 := z4 (L' + 1 + 1 + 1) (.tail _ (.tail _ (.tail _ (.tail _ (.tail _ (.tail _ (.tail _ (.head _))))))))
      have s7 := z4 (L' + 1 + 1) (.tail _ (.tail _ (.tail _ (.tail _ (.tail _ (.tail _ (.tail _ (.tail _ (.head _)))))))))
      replace N9 : News s.heap L' _ ((I2, oI2) :: (I, oI) :: (rl, W.listOf rv.toArray er) :: (hand, oh) :: (words, W.listOf ws.toArray kw) :: (scr, osc) :: (L' + 1 + 1 + 1 + 1, d4) :: (L' + 1 + 1 + 1, _) :: (L' + 1 + 1, _) :: (L' + 1, c1) :: frz s.heap S4) := N9
      (try dsimp only)
      k_steps
      rename Fr _ _ _ _ => F10
      rename News _ _ _ _ => N10
      obtain ⟨xs, txa, txb, hsl, hx0, hxl, hxz⟩ := stretch hW (show min st1 st2 ≤ max en1 en2 by omega) (show max en1 en2 < N by omega)
      have nsl := (N10 _ (.head _)).1
      have uh10 := up_of F10 N10 (fun p hp => .tail _ (.tail _ (.tail _ (.tail _ (.tail _ (.tail _ (.tail _ (.tail _ (.tail _ (.tail _ (.tail _ hp))))))))))) z1
      k_dflt refine' (Stop.mk (down_ok (.node lab ds) X T F10.keep (show 301 + 1 + (D.node lab ds).ht + 20 < recursionLimit from (by simp only [recursionLimit]; omega)) (show 4 + 3 + 40 * (D.node lab ds).ht + 200 < cLine from (by have := cLine_is; omega)) rfl ((dB4.up (newer_sub _ _)).up uh10) (by omega) ⟨_, nsl, rfl, 0, congrArg Data.seq hsl⟩ hx0 hxl (by omega) ?_))
      intro r9 plv ml mv p2 M2 km h11 tk11 kp11 hr9 hp2 hml hM2 hdn
      obtain ⟨rfl, -, -⟩ := one_law dlv (by omega) (by omega) hdn hpm hpx
      obtain ⟨F11, N11⟩ := pure_call F10 N10 kp11
      obtain ⟨S5, N12, y1, y2, y3, y4, y5, y6⟩ := refreezeP [_] [_, _, _, _, _, _, _, _, _, _] [I2, I, rl, hand, words, scr, L' + 1 + 1 + 1 + 1, L' + 1 + 1 + 1, L' + 1 + 1, L' + 1] rfl F11 N11 z1 z3 z4
      have un := newer_frzA F10 (News.thereA (AL := [I2, I, rl, hand, words, scr, L' + 1 + 1 + 1 + 1, L' + 1 + 1 + 1, L' + 1 + 1, L' + 1]) (News.sub (news' := [_, _, _, _, _, _, _, _, _, _]) N10 (fun p hp => .tail _ (List.mem_append_left (frz s.heap S4) hp))) rfl) y5
      obtain ⟨da, dxs, rfl, hda, hdi⟩ := hp2.up un
      have hr9' := newer_sub _ _ _ _ (un _ _ hr9)
      have hda' := newer_sub _ _ _ _ hda
      have hpb' := y2 _ _ (newer_sub _ _ _ _ hpb)
      have tT5 := tT4.up (newer_up (stays_refl _) y2)
      have hr1' := y2 _ _ hr1'
      have hr2' := y2 _ _ hr2'
      have hpa1' := y2 _ _ hpa1'
      have hpa2' := y2 _ _ hpa2'
      have hx := y2 _ _ hx
      have hdx := y2 _ _ hdx
      have uS5 := stays_trans uS4 y2
      replace N12 : News s.heap L' _ ((I2, oI2) :: (I, oI) :: (rl, W.listOf rv.toArray er) :: (hand, oh) :: (words, W.listOf ws.toArray kw) :: (scr, osc) :: (L' + 1 + 1 + 1 + 1, d4) :: (L' + 1 + 1 + 1, _) :: (L' + 1 + 1, _) :: (L' + 1, c1) :: frz s.heap S5) := N12
      clear N11 N10 F10 un y5 y6 nsl uh10 s0 s0' s1 s2 s3 s4 s5 s6 s7 hp2 hM2 hml hr9 hda hpb tT4 dB4 z1 z3 z4 uS4 hdn z2
      have s0 := y4 I2 (.head _)
      have s0' := y4 I (.tail _ (.head _))
      have s1 := y4 rl (.tail _ (.tail _ (.head _)))
      have s2 := y4 hand (.tail _ (.tail _ (.tail _ (.head _))))
      have s3 := y4 words (.tail _ (.tail _ (.tail _ (.tail _ (.head _)))))
      have s4 := y4 scr (.tail _ (.tail _ (.tail _ (.tail _ (.tail _ (.head _))))))
      have s5 := y4 (L' + 1 + 1 + 1 + 1) (.tail _ (.tail _ (.tail _ (.tail _ (.tail _ (.tail _ (.head _)))))))
      have s6 := y4 (L' + 1 + 1 + 1) (.tail _ (.tail _ (.tail _ (.tail _ (.tail _ (.tail _ (.tail _ (.head _))))))))
      have s7 := y4 (L' + 1 + 1) (.tail _ (.tail _ (.tail _ (.tail _ (.tail _ (.tail _ (.tail _ (.tail _ (.head _)))))))))
      have lb : xb.length ≤ 1000000 := by
        rw [numsP_length hxb]
        have := plen hpm (lcp_prefix pm px).1
        omega
      have l1 : xs1.length ≤ 1000000 := by
        rw [numsP_length hxs1]
        have := plen hps1 (lcp_prefix ps1 pe1).1
        omega
      have l2 : xs2.length ≤ 1000000 := by
        rw [numsP_length hxs2]
        have := plen hps2 (lcp_prefix ps2 pe2).1
        omega
      (try dsimp only)
      k_steps
      rename Fr _ _ _ _ => F13
      rename News _ _ _ _ => N13
      k_dflt (refine' Stop.mk (itemR_F (l := [_, _]) (i := 0) (up_of F13 N13 (fun p hp => .tail _ (.tail _ (.tail _ (.tail _ (.tail _ (.tail _ (.tail _ (.tail _ (.tail _ (.tail _ hp)))))))))) y1) hr9' rfl rfl (Nat.le_of_ble_eq_true rfl) ?_ ?zs0); (case zs0 => with_unfolding_all rfl))
      (try dsimp only)
      k_steps
      rename Fr _ _ _ _ => F13
      rename News _ _ _ _ => N13
      have uh13 := up_of F13 N13 (fun p hp => .tail _ (.tail _ (.tail _ (.tail _ (.tail _ (.tail _ (.tail _ (.tail _ (.tail _ (.tail _ hp)))))))))) y1
      k_dflt refine' (Stop.mk (ints_ne (uh13 _ _ hpb') (uh13 _ _ hda') hxb hdi (show 4 + 3 < cLine from (by have := cLine_is; omega)) ?_))
      k_steps
      rename Fr _ _ _ _ => F14
      rename News _ _ _ _ => N14
      have hlaw := pair_law dlv hse1 hse2 hps1 hpe1 hps2 hpe2 hpm hpx
      obtain ⟨c1', c2', c3'⟩ := hlaw
      have q1 := prefix_ints hxs1 hxb c1'
      have q2 := prefix_ints hxs2 hxb c2'
      have g1 := (newer_iff.mp hpa1).1
      have g2 := (newer_iff.mp hpa2).1
      k_dflt (refine' Stop.mk (slice_toR F14 N14 (.tail _ (.tail _ (.tail _ (.tail _ (.tail _ (.tail _ (.tail _ (.tail _ (.tail _ (.tail _ (mem_frz.mpr ⟨g1, hpa1'⟩))))))))))) q1.1 l1 ?_ ?zs1); (case zs1 => with_unfolding_all rfl))
      intro ra ha15 F15 N15
      (try dsimp only)
      k_steps
      rename Fr _ _ _ _ => F15
      rename News _ _ _ _ => N15
      have uh15 := up_of F15 N15 (fun p hp => .tail _ (.tail _ (.tail _ (.tail _ (.tail _ (.tail _ (.tail _ (.tail _ (.tail _ (.tail _ (.tail _ hp))))))))))) y1
      k_dflt refine' (Stop.mk (ints_ne (N15 _ (.head _)).1 (uh15 _ _ hpb') q1.2 hxb (show 4 + 3 < cLine from (by have := cLine_is; omega)) ?_))
      k_steps
      rename Fr _ _ _ _ => F16
      rename News _ _ _ _ => N16
      replace N16 := News.sub (news' := _ :: _ :: _ :: _ :: _ :: _ :: _ :: _ :: _ :: _ :: frz s.heap S5) N16 (fun p hp => .tail _ hp)
      clear uh15
      k_dflt (refine' Stop.mk (slice_toR F16 N16 (.tail _ (.tail _ (.tail _ (.tail _ (.tail _ (.tail _ (.tail _ (.tail _ (.tail _ (.tail _ (mem_frz.mpr ⟨g2, hpa2'⟩))))))))))) q2.1 l2 ?_ ?zs2); (case zs2 => with_unfolding_all rfl))
      intro rb hb17 F17 N17
      (try dsimp only)
      k_steps
      rename Fr _ _ _ _ => F17
      rename News _ _ _ _ => N17
      have uh17 := up_of F17 N17 (fun p hp => .tail _ (.tail _ (.tail _ (.tail _ (.tail _ (.tail _ (.tail _ (.tail _ (.tail _ (.tail _ (.tail _ hp))))))))))) y1
      k_dflt refine' (Stop.mk (ints_ne (N17 _ (.head _)).1 (uh17 _ _ hpb') q2.2 hxb (show 4 + 3 < cLine from (by have := cLine_is; omega)) ?_))
      replace N17 := News.sub (news' := _ :: _ :: _ :: _ :: _ :: _ :: _ :: _ :: _ :: _ :: frz s.heap S5) N17 (fun p hp => .tail _ hp)
      clear uh17
      k_steps
      rotate_left
      · rename Fr _ _ _ _ => Fz
        rename News _ _ _ _ => Nz
        show Stop _
        exact fin _ _ _ S5 _ _ _ Fz rfl rfl rfl rfl Nz ⟨_, hu4⟩ ⟨_, dE⟩ ⟨_, dS⟩ uS5 y1 y3 y4
      · rename Fr _ _ _ _ => Fz
        rename News _ _ _ _ => Nz
        show Stop _
        exact fin _ _ _ S5 _ _ _ Fz rfl rfl rfl rfl Nz ⟨_, hu4⟩ ⟨_, dE⟩ ⟨_, dS⟩ uS5 y1 y3 y4
      rename (xb.length : Int) < (xs2.length : Int) => hl2
      rename (xb.length : Int) < (xs1.length : Int) => hl1
      rename Fr _ _ _ _ => F18
      rename News _ _ _ _ => N18
      rw [numsP_length hxb, numsP_length hxs1] at hl1
      rw [numsP_length hxb, numsP_length hxs2] at hl2
      obtain ⟨ka, hka⟩ : ∃ k, (lcp ps1 pe1)[(lcp pm px).length]? = some k := ⟨_, List.getElem?_eq_getElem (by omega)⟩
      obtain ⟨kb, hkb⟩ : ∃ k, (lcp ps2 pe2)[(lcp pm px).length]? = some k := ⟨_, List.getElem?_eq_getElem (by omega)⟩
      obtain ⟨hne, hdis⟩ := c3' ka kb hka hkb
      have hneI : (ka : Int) ≠ (kb : Int) := by omega
      obtain ⟨tka, hxa⟩ := numsP_get hxs1 hka
      obtain ⟨tkb, hxbb⟩ := numsP_get hxs2 hkb
      rw [← numsP_length hxb] at hxa hxbb
      have uh18 := up_of F18 N18 (fun p hp => .tail _ (.tail _ (.tail _ (.tail _ (.tail _ (.tail _ (.tail _ (.tail _ (.tail _ (.tail _ hp)))))))))) y1
      k_dflt (refine' Stop.mk (itemR_F (i := xb.length) uh18 hpa1' rfl hxa l1 ?_ ?zs4); (case zs4 => with_unfolding_all rfl))
      clear uh18
      k_steps
      rename Fr _ _ _ _ => F19
      rename News _ _ _ _ => N19
      have uh19 := up_of F19 N19 (fun p hp => .tail _ (.tail _ (.tail _ (.tail _ (.tail _ (.tail _ (.tail _ (.tail _ (.tail _ (.tail _ hp)))))))))) y1
      k_dflt (refine' Stop.mk (itemR_F (i := xb.length) uh19 hpa2' rfl hxbb l2 ?_ ?zs5); (case zs5 => with_unfolding_all rfl))
      clear uh19
      k_steps
      rename Fr _ _ _ _ => F20
      rename News _ _ _ _ => N20
      obtain ⟨eb, heb⟩ := sub_ex (d := .node lab ds) dlv (show st2 < N by omega) hps2 (lcp_prefix ps2 pe2).1
      obtain ⟨ea, hea⟩ := sub_ex (d := .node lab ds) dlv (show st1 < N by omega) hps1 (lcp_prefix ps1 pe1).1
      have hdis2 := hdis ea eb hea heb
      have sb := sub_small heb
      have sa := sub_small hea
      have np1 := plen hps1 (lcp_prefix ps1 pe1).1
      have np2 := plen hps2 (lcp_prefix ps2 pe2).1
      have uh20 := up_of F20 N20 (fun p hp => .tail _ (.tail _ (.tail _ (.tail _ (.tail _ (.tail _ (.tail _ (.tail _ (.tail _ (.tail _ hp)))))))))) y1
      k_dflt refine' (Stop.mk (words_ok (.node lab ds) eb (lcp ps2 pe2) X T F20.keep (show 301 + 1 + 2 * (lcp ps2 pe2).length + (D.node lab ds).ht + 30 < recursionLimit from (by simp only [recursionLimit]; omega)) (show 4 + 3 + 40 * (lcp ps2 pe2).length + 40 * (D.node lab ds).ht + 300 < cLine from (by have := cLine_is; omega)) rfl (stays_trans (newer_sub _ _) uh20) tT5 (by omega) (uh20 _ _ hpa2') hxs2 (by omega) heb sb.1 sb.2 ?_))
      intro rw1 vw1 kw1 h21 tk21 kp21 hn21 hg21 hw21
      obtain ⟨F21, N21, off21⟩ := fresh_call F20 N20 kp21 hn21 hg21
      have o1 := neN (off21 _ (.head _))
      have o2 := neN (off21 _ (.tail _ (.head _)))
      have o3 := neN (off21 _ (.tail _ (.tail _ (.head _))))
      have o4 := neN (off21 _ (.tail _ (.tail _ (.tail _ (.head _)))))
      have o5 := neN (off21 _ (.tail _ (.tail _ (.tail _ (.tail _ (.head _))))))
      have o6 := neN (off21 _ (.tail _ (.tail _ (.tail _ (.tail _ (.tail _ (.head _)))))))
      have o7 := neN (off21 _ (.tail _ (.tail _ (.tail _ (.tail _ (.tail _ (.tail _ (.head _))))))))
      dsimp only at o1 o2 o3 o4 o5 o6 o7
      clear F20 N20 uh20
      (try dsimp only)
      k_steps
      rename Fr _ _ _ _ => F22
      rename News _ _ _ _ => N22
      rename Obj.data _ = Data.cell (some (Value.ref rw1)) => dH
      k_dflt refine' (Stop.mk (eval_listComp rfl (by with_unfolding_all rfl) (by decide) rfl (by decide) rfl ?_ (fun _ => rfl)))
      k_steps
      rename Fr _ _ _ _ => F23
      rename News _ _ _ _ => N23
      have uh23 := up_of F23 N23 (fun p hp => .tail _ (.tail _ (.tail _ (.tail _ (.tail _ (.tail _ (.tail _ (.tail _ (.tail _ (.tail _ (.tail _ hp))))))))))) y1
      k_dflt refine' (Stop.mk (words_ok (.node lab ds) ea (lcp ps1 pe1) X T F23.keep (show 301 + 1 + 2 * (lcp ps1 pe1).length + (D.node lab ds).ht + 30 < recursionLimit from (by simp only [recursionLimit]; omega)) (show 4 + 3 + 40 * (lcp ps1 pe1).length + 40 * (D.node lab ds).ht + 300 < cLine from (by have := cLine_is; omega)) rfl (stays_trans (newer_sub _ _) uh23) tT5 (by omega) (uh23 _ _ hpa1') hxs1 (by omega) hea sa.1 sa.2 ?_))
      intro rw2 vw2 kw2 h24 tk24 kp24 hn24 hg24 hw24
      obtain ⟨F24, N24⟩ := pure_call F23 N23 kp24
      clear F23 N23 uh23
      have hH24 := (N24 (L' + 1 + 1 + 1 + 1, _) (.tail _ (.tail _ (.tail _ (.tail _ (.tail _ (.tail _ (.tail _ (.head _))))))))).1
      have hL24 := isList_at (N24 (rw1, _) (.head _)).1
      dsimp only at hH24
      have lw24 := hw24.length
      have ll24 := leaves_le_size ea
      refine Stop.mk ⟨rw2, vw2.toArray, rfl, isList_at hg24, by rw [List.size_toArray]; omega, fun I' D' C i m acc cs => cs = [] ∧ acc = [], fun _ _ _ _ _ _ => ⟨rfl, rfl⟩, ?_, ?_⟩
      · rintro I' D' C i v m acc ep2 cs h16 tk16 oI' eI eD eC hv ⟨rfl, rfl⟩ hac hcs F N
        obtain ⟨wi, hwi⟩ : ∃ wi, ea.leaves[i]? = some wi := by
          have h1 := (Array.getElem?_eq_some_iff.mp hv).1
          rw [List.size_toArray] at h1
          exact ⟨_, List.getElem?_eq_getElem (by omega)⟩
        obtain ⟨twi, hvi⟩ := hw24.get hwi
        obtain rfl : v = .str (wordStr wi) twi := by
          have h1 : vw2[i]? = some v := by simpa using hv
          rw [hvi] at h1
          exact (Option.some.inj h1).symm
        have hno := hdis2 wi (List.mem_of_getElem? hwi)
        clear F24 N24
        refine wpAny_tests_one ?_
        dsimp only
        k_steps
        · rename wi ∈ _ => hyes
          exact absurd hyes hno
        · rename Fr _ _ _ _ => F
          rename News _ _ _ _ => N
          exact Stop.mk ⟨_, _, _, [], rfl, F, N, (fun _ q => nomatch q), rfl, rfl⟩
      · rintro I' D' C m acc ep2 cs h16 tk16 eI eD eC ⟨rfl, rfl⟩ hac hst hD hDg hcs
        obtain ⟨F25, N25⟩ := pure_call F24 N24 (.of_stays hst)
        have N26 : News s.heap L' h16 ((D', W.listOf #[] ep2) :: _) := fun p hp => by
          rcases List.mem_cons.mp hp with rfl | hp
          · exact ⟨hD, ne_local F24 hDg, none_up F24.keep hDg⟩
          · exact N25 p hp
        clear N25 N24 F24
        (try dsimp only)
        k_steps
        rename Fr _ _ _ _ => F27
        rename News _ _ _ _ => N27
        k_dflt refine' (Stop.mk (mets_ne (xs := []) (ys := []) (isList_at (N27 _ (.tail _ (.head _))).1) (isList_at (N27 _ (.head _)).1) .nil .nil (cl (4 + 3 + 6) rfl) ?_))
        k_steps
        rename Fr _ _ _ _ => F28
        rename News _ _ _ _ => N28
        show Stop _
        exact fin _ _ _ S5 _ _ _ F28 rfl rfl rfl rfl (News.sub N28 (fun p hp => .tail _ (.tail _ (.tail _ hp)))) ⟨_, dH⟩ ⟨_, dE⟩ ⟨_, dS⟩ uS5 y1 y3 y4
      skip --E3
    · rintro mm3 cs3 h3 tk3 ⟨_, S3, d4, d3, d2, n1, n2, n3, rfl, hv4, hv3, hv2, uS3, gS3, sL3, soff3, sI3⟩ F4 N4
      replace F4 : Fr s.heap L' h3 mm3 := F4
      replace N4 : News s.heap L' h3 ((I, oI) :: ([(rl, W.listOf rv.toArray er), (hand, oh), (words, W.listOf ws.toArray kw), (scr, osc), (L' + 1 + 1 + 1 + 1, d4), (L' + 1 + 1 + 1, d3), (L' + 1 + 1, d2), (L' + 1, c1)] ++ frz s.heap S3)) := N4
      clear F3 N3
      (try dsimp only)
      k_steps
      show Stop _
      refine Stop.mk ⟨_, _, mm3, _, rfl, F4, N4, fun p hp => ?_, S3, d4, d3, d2, n1, n2, n3, rfl, hv4, hv3, hv2, uS3, gS3, sL3, soff3, fun p hp => nomatch hp⟩
      rcases List.mem_append.mp hp with hp | hp
      · simp only [List.mem_cons, List.not_mem_nil, or_false] at hp
        rcases hp with rfl | rfl | rfl | rfl | rfl | rfl | rfl | rfl
        · exact hcI (rl, _) (.head _)
        · exact hcI (hand, _) (.tail _ (.head _))
        · exact hcI (words, _) (.tail _ (.tail _ (.head _)))
        · exact hcI (scr, _) (.tail _ (.tail _ (.tail _ (.head _))))
        · exact hcI (L' + 1 + 1 + 1 + 1, c4') (.tail _ (.tail _ (.tail _ (.tail _ (.head _)))))
        · exact hcI (L' + 1 + 1 + 1, c3') (.tail _ (.tail _ (.tail _ (.tail _ (.tail _ (.head _))))))
        · exact hcI (L' + 1 + 1, c2') (.tail _ (.tail _ (.tail _ (.tail _ (.tail _ (.tail _ (.head _)))))))
        · exact hcI (L' + 1, _) (.tail _ (.tail _ (.tail _ (.tail _ (.tail _ (.tail _ (.tail _ (.head _))))))))
      · exact frz_off (sI3 (I, oI) (.head _)) p hp
  · rintro mm2 cs h tk1 ⟨S2, c4', c3', c2', m1', m2', m3', rfl, hu4, hu3, hu2, uS2, gS2, sL2, soff2, _⟩ F2 N2
    rw [over3 m1' m2' m3'] at F2
    replace F2 : Fr s.heap L' h _ := F2
    replace N2 : News s.heap L' h _ := N2
    clear F1 N1
    (try dsimp only)
    k_steps
    rename Fr _ _ _ _ => F3
    exact hQ _ _ F3.keep
end
end CL3
theorem loop2_ok {w : World} {s : Shared} {mean : ExcName → Option Value} {mg : Str → Option Value} {mb : Str → Option Value} {L' : Addr} {hand : Addr} {words : Addr} {scr : Addr} {rl : Addr} {a : Addr} {x : Addr} {oc : Value} {dV : Value} {kV : Value} {doc : Value} {pm : Value} {cdv : Value} {ct : Value} {od : Option Addr} {an : Option Addr} {name : Str} {qual : Str} {params : Arguments} {body : List Stmt} {scope : Scope} {osl : Array (Option Value)} {h8 : Heap} {S : Heap} {gs : Array GenState} {tk : Tok} {mm : Str → Option Value} {kw : Nat} {er : Nat} {N : Nat} {ws : List Value} {rv : List Value} {c4 : Obj} {c3 : Obj} {c2 : Obj} {c1 : Obj} {oh : Obj} {osc : Obj} {lab : Str} {ds : List D} {Q : Flow → Shared → Prop} {E : Value → Shared → Prop} (X : (hd.heap_1 w.params).In s.heap) (T : TopH mean mg mb s.heap) (ho : (hd.heap_1 w.params).lookup 199 = some ⟨oc, od, .func (fnOf name qual params body scope dV kV doc pm an cdv ct), osl⟩) (m1 : mm (Str.ofString "rows") = some (.ref rl)) (m2 : mm (Str.ofString "tree") = some (.ref x)) (m3 : mm (Str.ofString "drawn") = some (.ref a)) (F0 : Fr s.heap L' h8 mm) (N0 : News s.heap L' h8 ([(rl, W.listOf rv.toArray er), (hand, oh), (words, W.listOf ws.toArray kw), (scr, osc), (L' + 1 + 1 + 1 + 1, c4), (L' + 1 + 1 + 1, c3), (L' + 1 + 1, c2), (L' + 1, c1)] ++ frz s.heap S)) (hc1 : c1.data = .cell (some (.ref words))) (hc4 : ∃ u, c4.data = .cell u) (hc3 : ∃ u, c3.data = .cell u) (hc2 : ∃ u, c2.data = .cell u) (uS : s.heap.StaysIn S) (sL : S.get? L' = none) (soff : ∀ q ∈ [rl, hand, words, scr, L' + 1 + 1 + 1 + 1, L' + 1 + 1 + 1, L' + 1 + 1, L' + 1], S.get? q = none) (a1 : (L' + 1 + 1 + 1 + 1 : Nat) < scr) (a2 : (scr : Nat) < hand) (a3 : (hand : Nat) < words) (a5 : (words : Nat) < rl) (dB : DrawnAt (newer s.heap S) (.ref a) (.node lab ds)) (tT : TreeAt w (newer s.heap S) (.ref x) (.node lab ds)) (dlv : (D.node lab ds).leaves = List.range N) (hN : 0 < N) (hW : Words ws (List.range N)) (dht : (D.node lab ds).ht ≤ 5) (dsz : (D.node lab ds).size ≤ 400) (hrv : rv.length = 3) (hrows : RowsAt (.node lab ds) N (newer s.heap S) rv) (hQ : ∀ h' tk', s.heap.StaysIn h' → Q (.ret (.bool true)) { s with heap := h', gens := gs, toks := tk' }) : wpAny (model prog w) (callerA.deeper (envOfC qual scope L' 199 cdv)) (execs (body.drop 8) (envOfC qual scope L' 199 cdv)) Q E { s with heap := h8, gens := gs, toks := tk } := by
  have h : ∀ t, CL3.Pp t := epsAll (nePair neWorld (nePair neShared (nePair (⟨default⟩ : Nonempty (ExcName → Option Value)) (nePair (⟨default⟩ : Nonempty (Str → Option Value)) (nePair (⟨default⟩ : Nonempty (Str → Option Value)) (nePair (⟨default⟩ : Nonempty (Addr)) (nePair (⟨default⟩ : Nonempty (Addr)) (nePair (⟨default⟩ : Nonempty (Addr)) (nePair (⟨default⟩ : Nonempty (Addr)) (nePair (⟨default⟩ : Nonempty (Addr)) (nePair (⟨default⟩ : Nonempty (Addr)) (nePair (⟨default⟩ : Nonempty (Addr)) (nePair (⟨default⟩ : Nonempty (Value)) (nePair (⟨default⟩ : Nonempty (Value)) (nePair (⟨default⟩ : Nonempty (Value)) (nePair (⟨default⟩ : Nonempty (Value)) (nePair (⟨default⟩ : Nonempty (Value)) (nePair (⟨default⟩ : Nonempty (Value)) (nePair (⟨default⟩ : Nonempty (Value)) (nePair (⟨default⟩ : Nonempty (Option Addr)) (nePair (⟨default⟩ : Nonempty (Option Addr)) (nePair (⟨default⟩ : Nonempty (Str)) (nePair (⟨default⟩ : Nonempty (Str)) (nePair (⟨default⟩ : Nonempty (Arguments)) (nePair (⟨default⟩ : Nonempty (List Stmt)) (nePair (⟨default⟩ : Nonempty (Scope)) (nePair (⟨default⟩ : Nonempty (Array (Option Value))) (nePair (⟨default⟩ : Nonempty (Heap)) (nePair (⟨default⟩ : Nonempty (Heap)) (nePair (⟨default⟩ : Nonempty (Array GenState)) (nePair (⟨default⟩ : Nonempty (Tok)) (nePair (⟨default⟩ : Nonempty (Str → Option Value)) (nePair (⟨default⟩ : Nonempty (Nat)) (nePair (⟨default⟩ : Nonempty (Nat)) (nePair (⟨default⟩ : Nonempty (Nat)) (nePair (⟨default⟩ : Nonempty (List Value)) (nePair (⟨default⟩ : Nonempty (List Value)) (nePair (⟨default⟩ : Nonempty (Obj)) (nePair (⟨default⟩ : Nonempty (Obj)) (nePair (⟨default⟩ : Nonempty (Obj)) (nePair (⟨default⟩ : Nonempty (Obj)) (nePair (⟨default⟩ : Nonempty (Obj)) (nePair (⟨default⟩ : Nonempty (Obj)) (nePair (⟨default⟩ : Nonempty (Str)) (nePair (⟨default⟩ : Nonempty (List D)) (nePair (⟨default⟩ : Nonempty (Flow → Shared → Prop)) (⟨default⟩ : Nonempty (Value → Shared → Prop)))))))))))))))))))))))))))))))))))))))))))))))) CL3.Pp CL3.core
  exact h ⟨w, s, mean, mg, mb, L', hand, words, scr, rl, a, x, oc, dV, kV, doc, pm, cdv, ct, od, an, name, qual, params, body, scope, osl, h8, S, gs, tk, mm, kw, er, N, ws, rv, c4, c3, c2, c1, oh, osc, lab, ds, Q, E⟩ X T ho m1 m2 m3 F0 N0 hc1 hc4 hc3 hc2 uS sL soff a1 a2 a3 a5 dB tT dlv hN hW dht dsz hrv hrows hQ
end
namespace CL2
noncomputable section
abbrev Tup : Type := (World) × (Shared) × (ExcName → Option Value) × (Str → Option Value) × (Str → Option Value) × (Addr) × (Addr) × (Addr) × (Addr) × (Addr) × (Addr) × (Addr) × (Value) × (Value) × (Value) × (Value) × (Value) × (Value) × (Value) × (Option Addr) × (Option Addr) × (Str) × (Str) × (Arguments) × (List Stmt) × (Scope) × (Array (Option Value)) × (Heap) × (Heap) × (Array GenState) × (Tok) × (Str → Option Value) × (Int) × (Int) × (Tok) × (Tok) × (Nat) × (Nat) × (Nat) × (Nat) × (List Value) × (List Value) × (List Value) × (List Int) × (Obj) × (Obj) × (Obj) × (Obj) × (Str) × (List D) × (Flow → Shared → Prop) × (Value → Shared → Prop)
def Pp : Tup → Prop := fun tt9 => (fun (w : World) (s : Shared) (mean : ExcName → Option Value) (mg : Str → Option Value) (mb : Str → Option Value) (L' : Addr) (hand : Addr) (words : Addr) (scr : Addr) (a : Addr) (x : Addr) (pl : Addr) (oc : Value) (dV : Value) (kV : Value) (doc : Value) (pm : Value) (cdv : Value) (ct : Value) (od : Option Addr) (an : Option Addr) (name : Str) (qual : Str) (params : Arguments) (body : List Stmt) (scope : Scope) (osl : Array (Option Value)) (h8 : Heap) (S : Heap) (gs : Array GenState) (tk : Tok) (m₀ : Str → Option Value) (k' : Int) (b' : Int) (ta : Tok) (tb : Tok) (kh : Nat) (kw : Nat) (ep : Nat) (N : Nat) (ws : List Value) (ss : List Value) (pv : List Value) (ns : List Int) (c4 : Obj) (c3 : Obj) (c2 : Obj) (c1 : Obj) (lab : Str) (ds : List D) (Q : Flow → Shared → Prop) (E : Value → Shared → Prop) => ∀ (X : (hd.heap_1 w.params).In s.heap) (T : TopH mean mg mb s.heap) (ho : (hd.heap_1 w.params).lookup 199 = some ⟨oc, od, .func (fnOf name qual params body scope dV kV doc pm an cdv ct), osl⟩) (F : Fr s.heap L' h8 (fun z => if z = Str.ofString "parts" then some (.ref pl) else if z = Str.ofString "tree" then some (.ref x) else if z = Str.ofString "drawn" then some (.ref a) else if z = Str.ofString "hand" then some (.ref hand) else m₀ z)) (N0 : News s.heap L' h8 ([(hand, W.listOf #[.ref scr, .int k' ta, .int b' tb] kh), (words, W.listOf ws.toArray kw), (scr, W.listOf ss.toArray 0), (L' + 1 + 1 + 1 + 1, c4), (L' + 1 + 1 + 1, c3), (L' + 1 + 1, c2), (L' + 1, c1)] ++ frz s.heap S)) (hc1 : c1.data = .cell (some (.ref words))) (hc4 : c4.data = .cell none) (hc3 : c3.data = .cell none) (hc2 : c2.data = .cell none) (uS : s.heap.StaysIn S) (sL : S.get? L' = none) (soff : ∀ q ∈ [hand, words, scr, L' + 1 + 1 + 1 + 1, L' + 1 + 1 + 1, L' + 1 + 1, L' + 1], S.get? q = none) (lh : scr < hand ∧ L' + 1 + 1 + 1 + 1 < hand ∧ L' + 1 + 1 + 1 < hand ∧ L' + 1 + 1 < hand ∧ L' + 1 < hand) (lw : hand < words ∧ scr < words ∧ L' + 1 + 1 + 1 + 1 < words ∧ L' + 1 + 1 + 1 < words ∧ L' + 1 + 1 < words ∧ L' + 1 < words) (ls : L' + 1 + 1 + 1 + 1 < scr ∧ L' + 1 + 1 + 1 < scr ∧ L' + 1 + 1 < scr ∧ L' + 1 < scr) (hI : IntsAre ss ns) (hnl : ns.length ≤ 63) (hk0 : 0 ≤ k') (hk1 : k' ≤ 90000) (dB : DrawnAt (newer s.heap S) (.ref a) (.node lab ds)) (tT : TreeAt w (newer s.heap S) (.ref x) (.node lab ds)) (hpl : (newer s.heap S).get? pl = some (W.listOf pv.toArray ep)) (hM : Mets (newer s.heap S) pv (D.node lab ds).subs) (dlv : (D.node lab ds).leaves = List.range N) (hN : 0 < N) (hW : Words ws (List.range N)) (dht : (D.node lab ds).ht ≤ 5) (dsz : (D.node lab ds).size ≤ 400) (hQ : ∀ h' tk', s.heap.StaysIn h' → Q (.ret (.bool true)) { s with heap := h', gens := gs, toks := tk' }), wpAny (model prog w) (callerA.deeper (envOfC qual scope L' 199 cdv)) (execs (body.drop 6) (envOfC qual scope L' 199 cdv)) Q E { s with heap := h8, gens := gs, toks := tk }) tt9.1 tt9.2.1 tt9.2.2.1 tt9.2.2.2.1 tt9.2.2.2.2.1 tt9.2.2.2.2.2.1 tt9.2.2.2.2.2.2.1 tt9.2.2.2.2.2.2.2.1 tt9.2.2.2.2.2.2.2.2.1 tt9.2.2.2.2.2.2.2.2.2.1 tt9.2.2.2.2.2.2.2.2.2.2.1 tt9.2.2.2.2.2.2.2.2.2.2.2.1 tt9.2.2.2.2.2.2.2.2.2.2.2.2.1 tt9.2.2.2.2.2.2.2.2.2.2.2.2.2.1 tt9.2.2.2.2.2.2.2.2.2.2.2.2.2.2.1 tt9.2.2.2.2.2.2.2.2.2.2.2.2.2.2.2.1 tt9.2.2.2.2.2.2.2.2.2.2.2.2.2.2.2.2.1 tt9.2.2.2.2.2.2.2.2.2.2.2.2.2.2.2.2.2.1 tt9.2.2.2.2.2.2.2.2.2.2.2.2.2.2.2.2.2.2.1 tt9.2.2.2.2.2.2.2.2.2.2.2.2.2.2.2.2.2.2.2.1 tt9.2.2.2.2.2.2.2.2.2.2.2.2.2.2.2.2.2.2.2.2.1 tt9.2.2.2.2.2.2.2.2.2.2.2.2.2.2.2.2.2.2.2.2.2.1 tt9.2.2.2.2.2.2.2.2.2.2.2.2.2.2.2.2.2.2.2.2.2.2.1 tt9.2.2.2.2.2.2.2.2.2.2.2.2.2.2.2.2.2.2.2.2.2.2.2.1 tt9.2.2.2.2.2.2.2.2.2.2.2.2.2.2.2.2.2.2.2.2.2.2.2.2.1 tt9.2.2.2.2.2.2.2.2.2.2.2.2.2.2.2.2.2.2.2.2.2.2.2.2.2.1 tt9.2.2.2.2.2.2.2.2.2.2.2.2.2.2.2.2.2.2.2.2.2.2.2.2.2.2.1 tt9.2.2.2.2.2.2.2.2.2.2.2.2.2.2.2.2.2.2.2.2.2.2.2.2.2.2.2.1 tt9.2.2.2.2.2.2.2.2.2.2.2.2.2.2.2.2.2.2.2.2.2.2.2.2.2.2.2.2.1 tt9.2.2.2.2.2.2.2.2.2.2.2.2.2.2.2.2.2.2.2.2.2.2.2.2.2.2.2.2.2.1 tt9.2.2.2.2.2.2.2.2.2.2.2.2.2.2.2.2.2.2.2.2.2.2.2.2.2.2.2.2.2.2.1 tt9.2.2.2.2.2.2.2.2.2.2.2.2.2.2.2.2.2.2.2.2.2.2.2.2.2.2.2.2.2.2.2.1 tt9.2.2.2.2.2.2.2.2.2.2.2.2.2.2.2.2.2.2.2.2.2.2.2.2.2.2.2.2.2.2.2.2.1 tt9.2.2.2.2.2.2.2.2.2.2.2.2.2.2.2.2.2.2.2.2.2.2.2.2.2.2.2.2.2.2.2.2.2.1 tt9.2.2.2.2.2.2.2.2.2.2.2.2.2.2.2.2.2.2.2.2.2.2.2.2.2.2.2.2.2.2.2.2.2.2.1 tt9.2.2.2.2.2.2.2.2.2.2.2.2.2.2.2.2.2.2.2.2.2.2.2.2.2.2.2.2.2.2.2.2.2.2.2.1 tt9.2.2.2.2.2.2.2.2.2.2.2.2.2.2.2.2.2.2.2.2.2.2.2.2.2.2.2.2.2.2.2.2.2.2.2.2.1 tt9.2.2.2.2.2.2.2.2.2.2.2.2.2.2.2.2.2.2.2.2.2.2.2.2.2.2.2.2.2.2.2.2.2.2.2.2.2.1 tt9.2.2.2.2.2.2.2.2.2.2.2.2.2.2.2.2.2.2.2.2.2.2.2.2.2.2.2.2.2.2.2.2.2.2.2.2.2.2.1 tt9.2.2.2.2.2.2.2.2.2.2.2.2.2.2.2.2.2.2.2.2.2.2.2.2.2.2.2.2.2.2.2.2.2.2.2.2.2.2.2.1 tt9.2.2.2.2.2.2.2.2.2.2.2.2.2.2.2.2.2.2.2.2.2.2.2.2.2.2.2.2.2.2.2.2.2.2.2.2.2.2.2.2.1 tt9.2.2.2.2.2.2.2.2.2.2.2.2.2.2.2.2.2.2.2.2.2.2.2.2.2.2.2.2.2.2.2.2.2.2.2.2.2.2.2.2.2.1 tt9.2.2.2.2.2.2.2.2.2.2.2.2.2.2.2.2.2.2.2.2.2.2.2.2.2.2.2.2.2.2.2.2.2.2.2.2.2.2.2.2.2.2.1 tt9.2.2.2.2.2.2.2.2.2.2.2.2.2.2.2.2.2.2.2.2.2.2.2.2.2.2.2.2.2.2.2.2.2.2.2.2.2.2.2.2.2.2.2.1 tt9.2.2.2.2.2.2.2.2.2.2.2.2.2.2.2.2.2.2.2.2.2.2.2.2.2.2.2.2.2.2.2.2.2.2.2.2.2.2.2.2.2.2.2.2.1 tt9.2.2.2.2.2.2.2.2.2.2.2.2.2.2.2.2.2.2.2.2.2.2.2.2.2.2.2.2.2.2.2.2.2.2.2.2.2.2.2.2.2.2.2.2.2.1 tt9.2.2.2.2.2.2.2.2.2.2.2.2.2.2.2.2.2.2.2.2.2.2.2.2.2.2.2.2.2.2.2.2.2.2.2.2.2.2.2.2.2.2.2.2.2.2.1 tt9.2.2.2.2.2.2.2.2.2.2.2.2.2.2.2.2.2.2.2.2.2.2.2.2.2.2.2.2.2.2.2.2.2.2.2.2.2.2.2.2.2.2.2.2.2.2.2.1 tt9.2.2.2.2.2.2.2.2.2.2.2.2.2.2.2.2.2.2.2.2.2.2.2.2.2.2.2.2.2.2.2.2.2.2.2.2.2.2.2.2.2.2.2.2.2.2.2.2.1 tt9.2.2.2.2.2.2.2.2.2.2.2.2.2.2.2.2.2.2.2.2.2.2.2.2.2.2.2.2.2.2.2.2.2.2.2.2.2.2.2.2.2.2.2.2.2.2.2.2.2.1 tt9.2.2.2.2.2.2.2.2.2.2.2.2.2.2.2.2.2.2.2.2.2.2.2.2.2.2.2.2.2.2.2.2.2.2.2.2.2.2.2.2.2.2.2.2.2.2.2.2.2.2.1 tt9.2.2.2.2.2.2.2.2.2.2.2.2.2.2.2.2.2.2.2.2.2.2.2.2.2.2.2.2.2.2.2.2.2.2.2.2.2.2.2.2.2.2.2.2.2.2.2.2.2.2.2
def cc : Tup := @Classical.epsilon Tup (nePair neWorld (nePair neShared (nePair (⟨default⟩ : Nonempty (ExcName → Option Value)) (nePair (⟨default⟩ : Nonempty (Str → Option Value)) (nePair (⟨default⟩ : Nonempty (Str → Option Value)) (nePair (⟨default⟩ : Nonempty (Addr)) (nePair (⟨default⟩ : Nonempty (Addr)) (nePair (⟨default⟩ : Nonempty (Addr)) (nePair (⟨default⟩ : Nonempty (Addr)) (nePair (⟨default⟩ : Nonempty (Addr)) (nePair (⟨default⟩ : Nonempty (Addr)) (nePair (⟨default⟩ : Nonempty (Addr)) (nePair (⟨default⟩ : Nonempty (Value)) (nePair (⟨default⟩ : Nonempty (Value)) (nePair (⟨default⟩ : Nonempty (Value)) (nePair (⟨default⟩ : Nonempty (Value)) (nePair (⟨default⟩ : Nonempty (Value)) (nePair (⟨default⟩ : Nonempty (Value)) (nePair (⟨default⟩ : Nonempty (Value)) (nePair (⟨default⟩ : Nonempty (Option Addr)) (nePair (⟨default⟩ : Nonempty (Option Addr)) (nePair (⟨default⟩ : Nonempty (Str)) (nePair (⟨default⟩ : Nonempty (Str)) (nePair (⟨default⟩ : Nonempty (Arguments)) (nePair (⟨default⟩ : Nonempty (List Stmt)) (nePair (⟨default⟩ : Nonempty (Scope)) (nePair (⟨default⟩ : Nonempty (Array (Option Value))) (nePair (⟨default⟩ : Nonempty (Heap)) (nePair (⟨default⟩ : Nonempty (Heap)) (nePair (⟨default⟩ : Nonempty (Array GenState)) (nePair (⟨default⟩ : Nonempty (Tok)) (nePair (⟨default⟩ : Nonempty (Str → Option Value)) (nePair (⟨default⟩ : Nonempty (Int)) (nePair (⟨default⟩ : Nonempty (Int)) (nePair (⟨default⟩ : Nonempty (Tok)) (nePair (⟨default⟩ : Nonempty (Tok)) (nePair (⟨default⟩ : Nonempty (Nat)) (nePair (⟨default⟩ : Nonempty (Nat)) (nePair (⟨default⟩ : Nonempty (Nat)) (nePair (⟨default⟩ : Nonempty (Nat)) (nePair (⟨default⟩ : Nonempty (List Value)) (nePair (⟨default⟩ : Nonempty (List Value)) (nePair (⟨default⟩ : Nonempty (List Value)) (nePair (⟨default⟩ : Nonempty (List Int)) (nePair (⟨default⟩ : Nonempty (Obj)) (nePair (⟨default⟩ : Nonempty (Obj)) (nePair (⟨default⟩ : Nonempty (Obj)) (nePair (⟨default⟩ : Nonempty (Obj)) (nePair (⟨default⟩ : Nonempty (Str)) (nePair (⟨default⟩ : Nonempty (List D)) (nePair (⟨default⟩ : Nonempty (Flow → Shared → Prop)) (⟨default⟩ : Nonempty (Value → Shared → Prop))))))))))))))))))))))))))))))))))))))))))))))))))))) fun t => ¬ Pp t
def w : World := cc.1
def s : Shared := cc.2.1
def mean : ExcName → Option Value := cc.2.2.1
def mg : Str → Option Value := cc.2.2.2.1
def mb : Str → Option Value := cc.2.2.2.2.1
def L' : Addr := cc.2.2.2.2.2.1
def hand : Addr := cc.2.2.2.2.2.2.1
def words : Addr := cc.2.2.2.2.2.2.2.1
def scr : Addr := cc.2.2.2.2.2.2.2.2.1
def a : Addr := cc.2.2.2.2.2.2.2.2.2.1
def x : Addr := cc.2.2.2.2.2.2.2.2.2.2.1
def pl : Addr := cc.2.2.2.2.2.2.2.2.2.2.2.1
def oc : Value := cc.2.2.2.2.2.2.2.2.2.2.2.2.1
def dV : Value := cc.2.2.2.2.2.2.2.2.2.2.2.2.2.1
def kV : Value := cc.2.2.2.2.2.2.2.2.2.2.2.2.2.2.1
def doc : Value := cc.2.2.2.2.2.2.2.2.2.2.2.2.2.2.2.1
def pm : Value := cc.2.2.2.2.2.2.2.2.2.2.2.2.2.2.2.2.1
def cdv : Value := cc.2.2.2.2.2.2.2.2.2.2.2.2.2.2.2.2.2.1
def ct : Value := cc.2.2.2.2.2.2.2.2.2.2.2.2.2.2.2.2.2.2.1
def od : Option Addr := cc.2.2.2.2.2.2.2.2.2.2.2.2.2.2.2.2.2.2.2.1
def an : Option Addr := cc.2.2.2.2.2.2.2.2.2.2.2.2.2.2.2.2.2.2.2.2.1
def name : Str := cc.2.2.2.2.2.2.2.2.2.2.2.2.2.2.2.2.2.2.2.2.2.1
def qual : Str := cc.2.2.2.2.2.2.2.2.2.2.2.2.2.2.2.2.2.2.2.2.2.2.1
def params : Arguments := cc.2.2.2.2.2.2.2.2.2.2.2.2.2.2.2.2.2.2.2.2.2.2.2.1
def body : List Stmt := cc.2.2.2.2.2.2.2.2.2.2.2.2.2.2.2.2.2.2.2.2.2.2.2.2.1
def scope : Scope := cc.2.2.2.2.2.2.2.2.2.2.2.2.2.2.2.2.2.2.2.2.2.2.2.2.2.1
def osl : Array (Option Value) := cc.2.2.2.2.2.2.2.2.2.2.2.2.2.2.2.2.2.2.2.2.2.2.2.2.2.2.1
def h8 : Heap := cc.2.2.2.2.2.2.2.2.2.2.2.2.2.2.2.2.2.2.2.2.2.2.2.2.2.2.2.1
def S : Heap := cc.2.2.2.2.2.2.2.2.2.2.2.2.2.2.2.2.2.2.2.2.2.2.2.2.2.2.2.2.1
def gs : Array GenState := cc.2.2.2.2.2.2.2.2.2.2.2.2.2.2.2.2.2.2.2.2.2.2.2.2.2.2.2.2.2.1
def tk : Tok := cc.2.2.2.2.2.2.2.2.2.2.2.2.2.2.2.2.2.2.2.2.2.2.2.2.2.2.2.2.2.2.1
def m₀ : Str → Option Value := cc.2.2.2.2.2.2.2.2.2.2.2.2.2.2.2.2.2.2.2.2.2.2.2.2.2.2.2.2.2.2.2.1
def k' : Int := cc.2.2.2.2.2.2.2.2.2.2.2.2.2.2.2.2.2.2.2.2.2.2.2.2.2.2.2.2.2.2.2.2.1
def b' : Int := cc.2.2.2.2.2.2.2.2.2.2.2.2.2.2.2.2.2.2.2.2.2.2.2.2.2.2.2.2.2.2.2.2.2.1
def ta : Tok := cc.2.2.2.2.2.2.2.2.2.2.2.2.2.2.2.2.2.2.2.2.2.2.2.2.2.2.2.2.2.2.2.2.2.2.1
def tb : Tok := cc.2.2.2.2.2.2.2.2.2.2.2.2.2.2.2.2.2.2.2.2.2.2.2.2.2.2.2.2.2.2.2.2.2.2.2.1
def kh : Nat := cc.2.2.2.2.2.2.2.2.2.2.2.2.2.2.2.2.2.2.2.2.2.2.2.2.2.2.2.2.2.2.2.2.2.2.2.2.1
def kw : Nat := cc.2.2.2.2.2.2.2.2.2.2.2.2.2.2.2.2.2.2.2.2.2.2.2.2.2.2.2.2.2.2.2.2.2.2.2.2.2.1
def ep : Nat := cc.2.2.2.2.2.2.2.2.2.2.2.2.2.2.2.2.2.2.2.2.2.2.2.2.2.2.2.2.2.2.2.2.2.2.2.2.2.2.1
def N : Nat := cc.2.2.2.2.2.2.2.2.2.2.2.2.2.2.2.2.2.2.2.2.2.2.2.2.2.2.2.2.2.2.2.2.2.2.2.2.2.2.2.1
def ws : List Value := cc.2.2.2.2.2.2.2.2.2.2.2.2.2.2.2.2.2.2.2.2.2.2.2.2.2.2.2.2.2.2.2.2.2.2.2.2.2.2.2.2.1
def ss : List Value := cc.2.2.2.2.2.2.2.2.2.2.2.2.2.2.2.2.2.2.2.2.2.2.2.2.2.2.2.2.2.2.2.2.2.2.2.2.2.2.2.2.2.1
def pv : List Value := cc.2.2.2.2.2.2.2.2.2.2.2.2.2.2.2.2.2.2.2.2.2.2.2.2.2.2.2.2.2.2.2.2.2.2.2.2.2.2.2.2.2.2.1
def ns : List Int := cc.2.2.2.2.2.2.2.2.2.2.2.2.2.2.2.2.2.2.2.2.2.2.2.2.2.2.2.2.2.2.2.2.2.2.2.2.2.2.2.2.2.2.2.1
def c4 : Obj := cc.2.2.2.2.2.2.2.2.2.2.2.2.2.2.2.2.2.2.2.2.2.2.2.2.2.2.2.2.2.2.2.2.2.2.2.2.2.2.2.2.2.2.2.2.1
def c3 : Obj := cc.2.2.2.2.2.2.2.2.2.2.2.2.2.2.2.2.2.2.2.2.2.2.2.2.2.2.2.2.2.2.2.2.2.2.2.2.2.2.2.2.2.2.2.2.2.1
def c2 : Obj := cc.2.2.2.2.2.2.2.2.2.2.2.2.2.2.2.2.2.2.2.2.2.2.2.2.2.2.2.2.2.2.2.2.2.2.2.2.2.2.2.2.2.2.2.2.2.2.1
def c1 : Obj := cc.2.2.2.2.2.2.2.2.2.2.2.2.2.2.2.2.2.2.2.2.2.2.2.2.2.2.2.2.2.2.2.2.2.2.2.2.2.2.2.2.2.2.2.2.2.2.2.1
def lab : Str := cc.2.2.2.2.2.2.2.2.2.2.2.2.2.2.2.2.2.2.2.2.2.2.2.2.2.2.2.2.2.2.2.2.2.2.2.2.2.2.2.2.2.2.2.2.2.2.2.2.1
def ds : List D := cc.2.2.2.2.2.2.2.2.2.2.2.2.2.2.2.2.2.2.2.2.2.2.2.2.2.2.2.2.2.2.2.2.2.2.2.2.2.2.2.2.2.2.2.2.2.2.2.2.2.1
def Q : Flow → Shared → Prop := cc.2.2.2.2.2.2.2.2.2.2.2.2.2.2.2.2.2.2.2.2.2.2.2.2.2.2.2.2.2.2.2.2.2.2.2.2.2.2.2.2.2.2.2.2.2.2.2.2.2.2.1
def E : Value → Shared → Prop := cc.2.2.2.2.2.2.2.2.2.2.2.2.2.2.2.2.2.2.2.2.2.2.2.2.2.2.2.2.2.2.2.2.2.2.2.2.2.2.2.2.2.2.2.2.2.2.2.2.2.2.2
theorem core (X : (hd.heap_1 w.params).In s.heap) (T : TopH mean mg mb s.heap) (ho : (hd.heap_1 w.params).lookup 199 = some ⟨oc, od, .func (fnOf name qual params body scope dV kV doc pm an cdv ct), osl⟩) (F : Fr s.heap L' h8 (fun z => if z = Str.ofString "parts" then some (.ref pl) else if z = Str.ofString "tree" then some (.ref x) else if z = Str.ofString "drawn" then some (.ref a) else if z = Str.ofString "hand" then some (.ref hand) else m₀ z)) (N0 : News s.heap L' h8 ([(hand, W.listOf #[.ref scr, .int k' ta, .int b' tb] kh), (words, W.listOf ws.toArray kw), (scr, W.listOf ss.toArray 0), (L' + 1 + 1 + 1 + 1, c4), (L' + 1 + 1 + 1, c3), (L' + 1 + 1, c2), (L' + 1, c1)] ++ frz s.heap S)) (hc1 : c1.data = .cell (some (.ref words))) (hc4 : c4.data = .cell none) (hc3 : c3.data = .cell none) (hc2 : c2.data = .cell none) (uS : s.heap.StaysIn S) (sL : S.get? L' = none) (soff : ∀ q ∈ [hand, words, scr, L' + 1 + 1 + 1 + 1, L' + 1 + 1 + 1, L' + 1 + 1, L' + 1], S.get? q = none) (lh : scr < hand ∧ L' + 1 + 1 + 1 + 1 < hand ∧ L' + 1 + 1 + 1 < hand ∧ L' + 1 + 1 < hand ∧ L' + 1 < hand) (lw : hand < words ∧ scr < words ∧ L' + 1 + 1 + 1 + 1 < words ∧ L' + 1 + 1 + 1 < words ∧ L' + 1 + 1 < words ∧ L' + 1 < words) (ls : L' + 1 + 1 + 1 + 1 < scr ∧ L' + 1 + 1 + 1 < scr ∧ L' + 1 + 1 < scr ∧ L' + 1 < scr) (hI : IntsAre ss ns) (hnl : ns.length ≤ 63) (hk0 : 0 ≤ k') (hk1 : k' ≤ 90000) (dB : DrawnAt (newer s.heap S) (.ref a) (.node lab ds)) (tT : TreeAt w (newer s.heap S) (.ref x) (.node lab ds)) (hpl : (newer s.heap S).get? pl = some (W.listOf pv.toArray ep)) (hM : Mets (newer s.heap S) pv (D.node lab ds).subs) (dlv : (D.node lab ds).leaves = List.range N) (hN : 0 < N) (hW : Words ws (List.range N)) (dht : (D.node lab ds).ht ≤ 5) (dsz : (D.node lab ds).size ≤ 400) (hQ : ∀ h' tk', s.heap.StaysIn h' → Q (.ret (.bool true)) { s with heap := h', gens := gs, toks := tk' }) : wpAny (model prog w) (callerA.deeper (envOfC qual scope L' 199 cdv)) (execs (body.drop 6) (envOfC qual scope L' 199 cdv)) Q E { s with heap := h8, gens := gs, toks := tk } := by
  k_dflt refine' law_same ho ?k (fun qual body scope cdv => wpAny (model prog w) (callerA.deeper (envOfC qual scope L' 199 cdv)) (execs (body.drop 6) (envOfC qual scope L' 199 cdv)) Q E { s with heap := h8, gens := gs, toks := tk }) ?main
  case k => k_is
  clear ho
  dsimp only [List.drop]
  have N1 := N0
  clear N0
  k_steps
  refine Stop.mk (wpAny_For ?_)
  k_steps
  rename Fr _ _ _ _ => F1
  rename News _ _ _ _ => N1
  rename IsRange _ _ _ _ _ _ _ _ => hR
  obtain ⟨rl, hrl⟩ := head_name N1
  dsimp only at hrl
  subst hrl
  rename ∀ p : Addr × Obj, p ∈ ([_, _, _, _, _, _, _] ++ frz s.heap S) → p.1 < rl => lr
  have a1 := ltN ls.1
  have a2 := ltN lh.1
  have a3 := ltN lw.1
  have a4 : words < rl := lr (words, _) (.tail _ (.head _))
  have a5 := ltN a4
  have sr : S.get? rl = none := by
    cases e : S.get? rl with
    | none => rfl
    | some o =>
      have := lr (rl, o) (List.mem_append_right _ (mem_frz.mpr ⟨(N1 _ (.head _)).2.2, e⟩))
      exact absurd this (Nat.lt_irrefl _)
  have hrs : Builtin.Range.rangeSize 0 3 1 = ((3 : Nat) : Int) := by rfl
  have hsm : Builtin.Range.small 0 3 1 = true := by rfl
  k_dflt refine' (Stop.mk (forRange F1 N1 rfl hR hsm hrs rfl rfl
    (fun i mm cs => LJ s.heap S (.node lab ds) N ws ss kw c4 c1 L' hand words scr rl a x pl k' i mm cs)
    ⟨S, [], 0, kh, k', b', ta, tb, c3, c2, rfl, rfl, rfl, rfl, rfl, rfl, ⟨_, hc3⟩, ⟨_, hc2⟩, stays_refl _, uS, sL, ?_, rfl, fun i v e => by simp at e, hk0, by simp⟩ ?_ ?_))
  · intro q hq
    rcases List.mem_cons.mp hq with rfl | hq
    · exact sr
    · exact soff q hq
  · rintro i t mm cs h tk1 I oI hi ⟨S2, rv, er, kh2, k, b, ta2, tb2, c3', c2', m1, m2, m3, m4, m5, rfl, ⟨u3, hu3⟩, ⟨u2, hu2⟩, uS2, gS2, sL2, soff2, hrv, hrows, hk2, hk3⟩ hcI F2 N2
    rw [over5 m1 m2 m3 m4 m5] at F2
    replace F2 : Fr s.heap L' h _ := F2
    replace N2 : News s.heap L' h _ := N2
    clear F1 N1
    have nI1 := neN (hcI _ (.head _))
    have nI2 := neN (hcI _ (.tail _ (.head _)))
    have nI3 := neN (hcI _ (.tail _ (.tail _ (.head _))))
    have nI4 := neN (hcI _ (.tail _ (.tail _ (.tail _ (.head _)))))
    have nI5 := neN (hcI _ (.tail _ (.tail _ (.tail _ (.tail _ (.head _))))))
    have nI6 := neN (hcI _ (.tail _ (.tail _ (.tail _ (.tail _ (.tail _ (.head _)))))))
    have nI7 := neN (hcI _ (.tail _ (.tail _ (.tail _ (.tail _ (.tail _ (.tail _ (.head _))))))))
    have nI8 := neN (hcI _ (.tail _ (.tail _ (.tail _ (.tail _ (.tail _ (.tail _ (.tail _ (.head _)))))))))
    dsimp only at nI1 nI2 nI3 nI4 nI5 nI6 nI7 nI8
    have s1 := soff2 rl (.head _)
    have s2 := soff2 hand (.tail _ (.head _))
    have s3 := soff2 words (.tail _ (.tail _ (.head _)))
    have s4 := soff2 scr (.tail _ (.tail _ (.tail _ (.head _))))
    have s5 := soff2 (L' + 1 + 1 + 1 + 1) (.tail _ (.tail _ (.tail _ (.tail _ (.head _)))))
    have s6 := soff2 (L' + 1 + 1 + 1) (.tail _ (.tail _ (.tail _ (.tail _ (.tail _ (.head _))))))
    have s7 := soff2 (L' + 1 + 1) (.tail _ (.tail _ (.tail _ (.tail _ (.tail _ (.tail _ (.head _)))))))
    have soffI : ∀ q ∈ [I, rl, hand, words, scr, L' + 1 + 1 + 1 + 1, L' + 1 + 1 + 1, L' + 1 + 1, L' + 1], S2.get? q = none := fun q hq => by
      rcases List.mem_cons.mp hq with rfl | hq
      · cases e : S2.get? q with
        | none => rfl
        | some o => exact absurd rfl (hcI (q, o) (List.mem_append_right _ (mem_frz.mpr ⟨(N2 _ (.head _)).2.2, e⟩)))
      · exact soff2 q hq
    have hwl : ws.length = N := by rw [hW.length, List.length_range]
    have hNz : N ≤ 400 := by
      have := leaves_le_size (.node lab ds)
      rw [dlv, List.length_range] at this
      omega
    (with_reducible show wpAny _ _ _ _ _ _); k_fold
    k_steps
    rename Fr _ _ _ _ => F3
    rename News _ _ _ _ => N3
    k_dflt refine' (Stop.mk (next_ok X T F3.keep (show 301 + 1 + 10 < recursionLimit by decide) (cl (4 + 3 + 50) rfl) rfl ⟨_, _, _, (N3 _ (.tail _ (.tail _ (.head _)))).1⟩ (N3 _ (.tail _ (.tail _ (.head _)))).2.2 (Nat.ne_of_lt lh.1) (isList_at (N3 _ (.tail _ (.tail _ (.tail _ (.tail _ (.head _)))))).1) hI hnl hk2 (by omega) (by omega) (by omega) ?_))
    intro i1 t1 h4 tk4 hi0 hi1 kp4 hH4
    obtain ⟨ta4, tb4, kh4, hH4⟩ := hH4
    obtain ⟨F4, N4⟩ := hand_call F3 N3 (by k_upd) kp4 hH4
    clear F3 N3
    obtain ⟨st, rfl⟩ := Int.eq_ofNat_of_zero_le hi0
    (try dsimp only)
    k_steps
    rename Fr _ _ _ _ => F5
    rename News _ _ _ _ => N5
    have tT2 := tT.up (newer_up (stays_refl s.heap) uS2)
    have dB2 := dB.up (newer_up (stays_refl s.heap) uS2)
    obtain ⟨dx, u4, u5, u6, cx, hx, hdx⟩ : ∃ dx t1 t2 t3 cx, S2.get? x = some (instObj 145 dx) ∧ S2.get? dx = some (dictOf (treeEs w t1 t2 cx lab t3) 2) := by
      have q := tT2.up (newer_sub _ _)
      cases q with
      | node h1 h2 => exact ⟨_, _, _, _, _, h1, h2⟩
    k_dflt refine' (Stop.mk (next_ok X T F5.keep (show 301 + 1 + 10 < recursionLimit by decide) (cl (4 + 3 + 50) rfl) rfl ⟨_, _, _, (N5 _ (.tail _ (.tail _ (.head _)))).1⟩ (N5 _ (.tail _ (.tail _ (.head _)))).2.2 (Nat.ne_of_lt lh.1) (isList_at (N5 _ (.tail _ (.tail _ (.tail _ (.tail _ (.head _)))))).1) hI hnl (by omega) (by omega) (by omega) (by omega) ?_))
    intro i2 t2 h6 tk6 hi20 hi21 kp6 hH6
    obtain ⟨ta6, tb6, kh6, hH6⟩ := hH6
    obtain ⟨F6, N6⟩ := hand_call F5 N5 (by k_upd) kp6 hH6
    clear F5 N5
    obtain ⟨en, hen, hse, heN⟩ : ∃ en : Nat, (st : Int) + 1 + i2 = ((en + 1 : Nat) : Int) ∧ st ≤ en ∧ en < N := ⟨((st : Int) + i2).toNat, by omega, by omega, by omega⟩
    (try dsimp only)
    k_steps
    rename Fr _ _ _ _ => F7
    rename News _ _ _ _ => N7
    rename Obj.data _ = Data.cell (some (Value.int ((st : Int) + 1 + i2) _)) => dE
    rename Obj.data _ = Data.cell (some (Value.int (st : Int) _)) => dS
    rw [hen] at dE
    rw [hen]
    obtain ⟨pp, hpp⟩ := path_ex (d := .node lab ds) (a := st) dlv (by omega)
    obtain ⟨qq, hqq⟩ := path_ex (d := .node lab ds) (a := en) dlv heN
    have uh7 := up_of F7 N7 (fun p hp => .tail _ (.tail _ (.tail _ (.tail _ (.tail _ (.tail _ (.tail _ (.tail _ (.tail _ hp))))))))) gS2
    k_dflt refine' (Stop.mk (span_ok (.node lab ds) X T F7.keep (show 301 + 1 + 30 < recursionLimit by decide) (cl (4 + 3 + 300) rfl) rfl ((tT2.up (newer_sub _ _)).up uh7) (by omega) hpp hqq ?_ hse))
    intro r1 h8 tk8 kp8 hP
    obtain ⟨F8, N8⟩ := pure_call F7 N7 kp8
    obtain ⟨S3, N9, x1, x2, x3, x4, x5, x6⟩ := refreezeP [] [_, _, _, _, _, _, _, _, _] [I, rl, hand, words, scr, L' + 1 + 1 + 1 + 1, L' + 1 + 1 + 1, L' + 1 + 1, L' + 1] rfl F8 N8 gS2 sL2 soffI
    have hP3 := hP.up (newer_frzA F7 (News.thereA (AL := [I, rl, hand, words, scr, L' + 1 + 1 + 1 + 1, L' + 1 + 1 + 1, L' + 1 + 1, L' + 1]) (News.sub (news' := [_, _, _, _, _, _, _, _, _]) N7 (fun p hp => List.mem_append_left (frz s.heap S2) hp)) rfl) x5)
    obtain ⟨pa, px, rfl, hpa, hpx⟩ := hP3
    have y1 := x4 rl (.tail _ (.head _))
    have y2 := x4 hand (.tail _ (.tail _ (.head _)))
    have y3 := x4 words (.tail _ (.tail _ (.tail _ (.head _))))
    have y4 := x4 scr (.tail _ (.tail _ (.tail _ (.tail _ (.head _)))))
    have y5 := x4 (L' + 1 + 1 + 1 + 1) (.tail _ (.tail _ (.tail _ (.tail _ (.tail _ (.head _))))))
    have y6 := x4 (L' + 1 + 1 + 1) (.tail _ (.tail _ (.tail _ (.tail _ (.tail _ (.tail _ (.head _)))))))
    have y7 := x4 (L' + 1 + 1) (.tail _ (.tail _ (.tail _ (.tail _ (.tail _ (.tail _ (.tail _ (.head _))))))))
    clear N8 F7 N7 hP x5 x6 s1 s2 s3 s4 s5 s6 s7
    (try dsimp only)
    k_steps
    rename Fr _ _ _ _ => F10
    rename News _ _ _ _ => N10
    obtain ⟨xs, txa, txb, hsl, hx0, hxl, hxz⟩ := stretch hW hse heN
    have nsl := (N10 _ (.head _)).1
    have uh10 := up_of F10 N10 (fun p hp => .tail _ (List.mem_append_right [_, _, _, _, _, _, _, _, _] hp)) x1
    k_dflt refine' (Stop.mk (down_ok (.node lab ds) X T F10.keep (show 301 + 1 + (D.node lab ds).ht + 20 < recursionLimit from (by simp only [recursionLimit]; omega)) (show 4 + 3 + 40 * (D.node lab ds).ht + 200 < cLine from (by have := cLine_is; omega)) rfl (((dB2.up (newer_sub _ _)).up x2).up uh10) (by omega) ⟨_, nsl, rfl, 0, congrArg Data.seq hsl⟩ hx0 hxl (by omega) ?_))
    intro r2 plv ml mv p2 M2 km h11 tk11 kp11 hr2 hp2 hml hM2 hdn
    obtain ⟨rfl, rfl, hsub⟩ := one_law dlv (by omega) heN hdn hpp hqq
    obtain ⟨F11, N11⟩ := pure_call F10 N10 kp11
    obtain ⟨S4, N12, z1, z2, z3, z4, z5, z6⟩ := refreezeP [_] [_, _, _, _, _, _, _, _, _] [I, rl, hand, words, scr, L' + 1 + 1 + 1 + 1, L' + 1 + 1 + 1, L' + 1 + 1, L' + 1] rfl F11 N11 x1 x3 x4
    have un := newer_frzA F10 (News.thereA (AL := [I, rl, hand, words, scr, L' + 1 + 1 + 1 + 1, L' + 1 + 1 + 1, L' + 1 + 1, L' + 1]) (News.sub (news' := [_, _, _, _, _, _, _, _, _]) N10 (fun p hp => .tail _ (List.mem_append_left (frz s.heap S3) hp))) rfl) z5
    obtain ⟨da, dxs, rfl, hda, hdi⟩ := hp2.up un
    have hr2' := un _ _ hr2
    have hml' := un _ _ hml
    have hM2' := hM2.up un
    have hpa' := newer_up (stays_refl s.heap) z2 _ _ hpa
    have N13 : News s.heap L' h11 ((r2, tupO #[.ref da, .ref ml]) :: ([_, _, _, _, _, _, _, _, _] ++ frz s.heap S4)) := fun p hp => by
      rcases List.mem_cons.mp hp with rfl | hp
      · exact N12 _ (List.mem_append_right _ (mem_frz.mpr (newer_iff.mp hr2')))
      · exact N12 p hp
    clear N12 N11 N10 F10 un z5 z6 nsl uh10 x4 y1 y2 y3 y4 y5 y6 y7
    have y1 := z4 rl (.tail _ (.head _))
    have y2 := z4 hand (.tail _ (.tail _ (.head _)))
    have y3 := z4 words (.tail _ (.tail _ (.tail _ (.head _))))
    have y4 := z4 scr (.tail _ (.tail _ (.tail _ (.tail _ (.head _)))))
    have y5 := z4 (L' + 1 + 1 + 1 + 1) (.tail _ (.tail _ (.tail _ (.tail _ (.tail _ (.head _))))))
    have y6 := z4 (L' + 1 + 1 + 1) (.tail _ (.tail _ (.tail _ (.tail _ (.tail _ (.tail _ (.head _)))))))
    have y7 := z4 (L' + 1 + 1) (.tail _ (.tail _ (.tail _ (.tail _ (.tail _ (.tail _ (.tail _ (.head _))))))))
    (try dsimp only)
    k_steps
    rename Fr _ _ _ _ => F14
    rename News _ _ _ _ => N14
    have uh14 := up_of F14 N14 (fun p hp => .tail _ (List.mem_append_right [_, _, _, _, _, _, _, _, _] hp)) z1
    k_dflt refine' (Stop.mk (ints_ne (uh14 _ _ (newer_sub _ _ _ _ hpa')) (uh14 _ _ (newer_sub _ _ _ _ hda)) hpx hdi (show 4 + 3 < cLine from (by have := cLine_is; omega)) ?_))
    k_steps
    rename Fr _ _ _ _ => F15
    rename News _ _ _ _ => N15
    k_dflt refine' (Stop.mk (eval_listComp rfl (by with_unfolding_all rfl) (by decide) rfl (by decide) rfl ?_ (fun _ => rfl)))
    k_steps
    rename Fr _ _ _ _ => F15
    rename News _ _ _ _ => N15
    have uh15 := up_of F15 N15 (fun p hp => .tail _ (List.mem_append_right [_, _, _, _, _, _, _, _, _] hp)) z1
    have hc1g := (N15 (L' + 1, c1) (.tail _ (.tail _ (.tail _ (.tail _ (.tail _ (.tail _ (.tail _ (.tail _ (.tail _ (.head _))))))))))).1
    have hc2g := (N15 (L' + 1 + 1, _) (.tail _ (.tail _ (.tail _ (.tail _ (.tail _ (.tail _ (.tail _ (.tail _ (.head _)))))))))).1
    have hc3g := (N15 (L' + 1 + 1 + 1, _) (.tail _ (.tail _ (.tail _ (.tail _ (.tail _ (.tail _ (.tail _ (.head _))))))))).1
    have hWg := isList_at (N15 (words, _) (.tail _ (.tail _ (.tail _ (.tail _ (.head _)))))).1
    dsimp only at hc1g hc2g hc3g
    have uSS : (newer s.heap S).StaysIn (newer s.heap S4) := newer_up (stays_refl _) (stays_trans uS2 (stays_trans x2 z2))
    have hMp := hM.up uSS
    have hplg := uh15 _ _ (newer_sub _ _ _ _ (uSS _ _ hpl))
    have hpl2 := hMp.length
    have hsl2 := subs_len (.node lab ds)
    obtain ⟨tws, hws⟩ := hW.get (k := st) (i := st) (List.getElem?_range (by omega))
    obtain ⟨twe, hwe⟩ := hW.get (k := en) (i := en) (List.getElem?_range (by omega))
    refine Stop.mk ⟨pl, pv.toArray, rfl, isList_at hplg, by rw [List.size_toArray]; omega, fun I' D' C j m acc cs => cs = [] ∧ Mets (newer s.heap S4) acc (((D.node lab ds).subs.take j).filter (holds st en)), fun _ _ _ _ _ _ => ⟨rfl, .nil⟩, ?_, ?_⟩
    · rintro I' D' C j v m acc ep2 cs h16 tk16 oI' eI eD eC hv ⟨rfl, hacc⟩ hac hcs F N
      obtain ⟨e, he⟩ : ∃ e, (D.node lab ds).subs[j]? = some e := by
        have h1 := (Array.getElem?_eq_some_iff.mp hv).1
        rw [List.size_toArray] at h1
        exact ⟨_, List.getElem?_eq_getElem (by omega)⟩
      obtain ⟨t5, r5, lab5, ds5, tl5, ws5, k5, rfl, rfl, ht5, hr5, hw5⟩ := mets_get hMp j v e (by simpa using hv) he
      have ht5g := uh15 _ _ (newer_sub _ _ _ _ ht5)
      have hr5g := uh15 _ _ (newer_sub _ _ _ _ hr5)
      have hT := IsTup.mk_at ht5g
      have hS := isList_at hr5g
      clear F15 N15
      refine wpAny_tests_one ?_
      dsimp only
      k_steps
      · rename st ∈ _ => hst
        rename Fr _ _ _ _ => F
        rename News _ _ _ _ => N
        k_dflt (refine' Stop.mk (itemW_H (i := en) F hWg hwe (by omega) (by omega) ?_ ?s ?t); (case s => with_unfolding_all rfl); (case t => (intro _; with_unfolding_all rfl)))
        dsimp only
        k_steps
        · rename en ∈ _ => hen2
          rename Fr _ _ _ _ => F
          rename News _ _ _ _ => N
          refine Stop.mk ⟨_, _, _, [], rfl, F, N, (fun _ q => nomatch q), rfl, mets_yes hacc he ⟨t5, r5, lab5, ds5, tl5, ws5, k5, rfl, rfl, ht5, hr5, hw5⟩ hst hen2⟩
        · rename en ∉ _ => hen2
          rename Fr _ _ _ _ => F
          rename News _ _ _ _ => N
          refine Stop.mk ⟨_, _, _, [], rfl, F, N, (fun _ q => nomatch q), rfl, mets_no hacc he (fun q => hen2 q.2)⟩
      · rename st ∉ _ => hst
        rename Fr _ _ _ _ => F
        rename News _ _ _ _ => N
        refine Stop.mk ⟨_, _, _, [], rfl, F, N, (fun _ q => nomatch q), rfl, mets_no hacc he (fun q => hst q.1)⟩
    · rintro I' D' C m acc ep2 cs h16 tk16 eI eD eC ⟨rfl, hacc⟩ hac hst hD hDg hcs
      obtain ⟨F16, N16⟩ := pure_call F15 N15 (.of_stays hst)
      rw [List.size_toArray, hpl2, List.take_length] at hacc
      have u16 := stays_trans (newer_sub s.heap S4) (stays_trans uh15 hst)
      k_dflt refine' (mets_ne (isList_at (u16 _ _ hml')) (isList_at hD) (hM2'.up u16) (hacc.up u16) (cl (4 + 3 + 6) rfl) ?_)
      have N17 := News.sub (news' := [_, _, _, _, _, _, _, _, _] ++ frz s.heap S4) N16 (fun p hp => .tail _ hp)
      clear N16 N15 F15
      have hrz : rv.length ≤ 99999 := by omega
      (try dsimp only)
      k_steps
      rename Fr _ _ _ _ => F18
      rename News _ _ _ _ => N18
      obtain ⟨tt, htt⟩ := head_name N18
      dsimp only at htt
      subst htt
      rename ∀ p : Addr × Obj, p ∈ ([_, _, _, _, _, _, _, _, _] ++ frz s.heap S4) → p.1 < tt => l18
      have q0 := ltN (l18 (I, _) (.head _))
      have q1 := ltN (l18 (rl, _) (.tail _ (.head _)))
      dsimp only at q0 q1
      refine Stop.mk ?_
      k_steps
      rename Fr _ _ _ _ => F19
      rename News _ _ _ _ => N19
      have n19 := N19 _ (.head _)
      have off19 := lt_off (AL := [I, rl, hand, words, scr, L' + 1 + 1 + 1 + 1, L' + 1 + 1 + 1, L' + 1 + 1, L' + 1]) rfl l18
      rw [List.push_toArray] at N19
      obtain ⟨S5, N20, w1, w2, w3, w4, w5, w6⟩ := refreezeP [_] [_, _, _, _, _, _, _, _, _] [I, rl, hand, words, scr, L' + 1 + 1 + 1 + 1, L' + 1 + 1 + 1, L' + 1 + 1, L' + 1] rfl F19 N19 z1 z3 z4
      have uS5 := stays_trans x2 (stays_trans z2 w2)
      have hrow : RowAt (.node lab ds) N (newer s.heap S5) (.ref tt) st en := ⟨tt, _, _, .ref pa, pp, qq, rfl, newer_iff.mpr ⟨n19.2.2, w5 _ _ n19.1 n19.2.1 off19⟩, hse, heN, hpp, hqq, ⟨pa, px, rfl, newer_up (stays_refl s.heap) w2 _ _ hpa', hpx⟩⟩
      have N21 : News s.heap L' _ ((I, oI) :: ([(rl, W.listOf (rv ++ [Value.ref tt]).toArray (er + 1)), (hand, W.listOf #[.ref scr, .int (k + 1 + 1) ta6, .int b tb6] kh6), (words, W.listOf ws.toArray kw), (scr, W.listOf ss.toArray 0), (L' + 1 + 1 + 1 + 1, c4), (L' + 1 + 1 + 1, _), (L' + 1 + 1, _), (L' + 1, c1)] ++ frz s.heap S5)) := N20
      show Stop _
      refine Stop.mk ⟨_, _, _, _, rfl, F19, N21, ?_, S5, rv ++ [.ref tt], er + 1, kh6, k + 1 + 1, b, ta6, tb6, _, _, rfl, rfl, rfl, rfl, rfl, rfl, ⟨_, dE⟩, ⟨_, dS⟩, stays_trans uS2 uS5, w1, w3, fun q hq => w4 q (.tail _ hq), by rw [List.length_append, hrv]; rfl, (hrows.up (newer_up (stays_refl _) uS5)).snoc hrow, by omega, by omega⟩
      intro p hp
      rcases List.mem_append.mp hp with hp | hp
      · simp only [List.mem_cons, List.not_mem_nil, or_false] at hp
        rcases hp with rfl | rfl | rfl | rfl | rfl | rfl | rfl | rfl
        · exact nI1
        · exact nI2
        · exact nI3
        · exact nI4
        · exact nI5
        · exact nI6
        · exact nI7
        · exact nI8
      · exact frz_off (w4 I (.head _)) p hp
  · rintro mm2 cs h tk1 ⟨S2, rv, er, kh2, k, b, ta2, tb2, c3', c2', m1, m2, m3, m4, m5, rfl, hu3, hu2, uS2, gS2, sL2, soff2, hrv, hrows, hk2, hk3⟩ F2 N2
    have up2 : (newer s.heap S).StaysIn (newer s.heap S2) := newer_up (stays_refl s.heap) uS2
    have N3 : News s.heap L' h ([(rl, W.listOf rv.toArray er), (hand, W.listOf #[.ref scr, .int k ta2, .int b tb2] kh2), (words, W.listOf ws.toArray kw), (scr, W.listOf ss.toArray 0), (L' + 1 + 1 + 1 + 1, c4), (L' + 1 + 1 + 1, c3'), (L' + 1 + 1, c2'), (L' + 1, c1)] ++ frz s.heap S2) := N2
    k_dflt exact loop2_ok X T (by k_is) m1 m3 m4 F2 N3 hc1 ⟨_, hc4⟩ hu3 hu2 gS2 sL2 soff2 a1 a2 a3 a5 (dB.up up2) (tT.up up2) dlv hN hW dht dsz hrv hrows hQ
end
end CL2
theorem loops_ok {w : World} {s : Shared} {mean : ExcName → Option Value} {mg : Str → Option Value} {mb : Str → Option Value} {L' : Addr} {hand : Addr} {words : Addr} {scr : Addr} {a : Addr} {x : Addr} {pl : Addr} {oc : Value} {dV : Value} {kV : Value} {doc : Value} {pm : Value} {cdv : Value} {ct : Value} {od : Option Addr} {an : Option Addr} {name : Str} {qual : Str} {params : Arguments} {body : List Stmt} {scope : Scope} {osl : Array (Option Value)} {h8 : Heap} {S : Heap} {gs : Array GenState} {tk : Tok} {m₀ : Str → Option Value} {k' : Int} {b' : Int} {ta : Tok} {tb : Tok} {kh : Nat} {kw : Nat} {ep : Nat} {N : Nat} {ws : List Value} {ss : List Value} {pv : List Value} {ns : List Int} {c4 : Obj} {c3 : Obj} {c2 : Obj} {c1 : Obj} {lab : Str} {ds : List D} {Q : Flow → Shared → Prop} {E : Value → Shared → Prop} (X : (hd.heap_1 w.params).In s.heap) (T : TopH mean mg mb s.heap) (ho : (hd.heap_1 w.params).lookup 199 = some ⟨oc, od, .func (fnOf name qual params body scope dV kV doc pm an cdv ct), osl⟩) (F : Fr s.heap L' h8 (fun z => if z = Str.ofString "parts" then some (.ref pl) else if z = Str.ofString "tree" then some (.ref x) else if z = Str.ofString "drawn" then some (.ref a) else if z = Str.ofString "hand" then some (.ref hand) else m₀ z)) (N0 : News s.heap L' h8 ([(hand, W.listOf #[.ref scr, .int k' ta, .int b' tb] kh), (words, W.listOf ws.toArray kw), (scr, W.listOf ss.toArray 0), (L' + 1 + 1 + 1 + 1, c4), (L' + 1 + 1 + 1, c3), (L' + 1 + 1, c2), (L' + 1, c1)] ++ frz s.heap S)) (hc1 : c1.data = .cell (some (.ref words))) (hc4 : c4.data = .cell none) (hc3 : c3.data = .cell none) (hc2 : c2.data = .cell none) (uS : s.heap.StaysIn S) (sL : S.get? L' = none) (soff : ∀ q ∈ [hand, words, scr, L' + 1 + 1 + 1 + 1, L' + 1 + 1 + 1, L' + 1 + 1, L' + 1], S.get? q = none) (lh : scr < hand ∧ L' + 1 + 1 + 1 + 1 < hand ∧ L' + 1 + 1 + 1 < hand ∧ L' + 1 + 1 < hand ∧ L' + 1 < hand) (lw : hand < words ∧ scr < words ∧ L' + 1 + 1 + 1 + 1 < words ∧ L' + 1 + 1 + 1 < words ∧ L' + 1 + 1 < words ∧ L' + 1 < words) (ls : L' + 1 + 1 + 1 + 1 < scr ∧ L' + 1 + 1 + 1 < scr ∧ L' + 1 + 1 < scr ∧ L' + 1 < scr) (hI : IntsAre ss ns) (hnl : ns.length ≤ 63) (hk0 : 0 ≤ k') (hk1 : k' ≤ 90000) (dB : DrawnAt (newer s.heap S) (.ref a) (.node lab ds)) (tT : TreeAt w (newer s.heap S) (.ref x) (.node lab ds)) (hpl : (newer s.heap S).get? pl = some (W.listOf pv.toArray ep)) (hM : Mets (newer s.heap S) pv (D.node lab ds).subs) (dlv : (D.node lab ds).leaves = List.range N) (hN : 0 < N) (hW : Words ws (List.range N)) (dht : (D.node lab ds).ht ≤ 5) (dsz : (D.node lab ds).size ≤ 400) (hQ : ∀ h' tk', s.heap.StaysIn h' → Q (.ret (.bool true)) { s with heap := h', gens := gs, toks := tk' }) : wpAny (model prog w) (callerA.deeper (envOfC qual scope L' 199 cdv)) (execs (body.drop 6) (envOfC qual scope L' 199 cdv)) Q E { s with heap := h8, gens := gs, toks := tk } := by
  have h : ∀ t, CL2.Pp t := epsAll (nePair neWorld (nePair neShared (nePair (⟨default⟩ : Nonempty (ExcName → Option Value)) (nePair (⟨default⟩ : Nonempty (Str → Option Value)) (nePair (⟨default⟩ : Nonempty (Str → Option Value)) (nePair (⟨default⟩ : Nonempty (Addr)) (nePair (⟨default⟩ : Nonempty (Addr)) (nePair (⟨default⟩ : Nonempty (Addr)) (nePair (⟨default⟩ : Nonempty (Addr)) (nePair (⟨default⟩ : Nonempty (Addr)) (nePair (⟨default⟩ : Nonempty (Addr)) (nePair (⟨default⟩ : Nonempty (Addr)) (nePair (⟨default⟩ : Nonempty (Value)) (nePair (⟨default⟩ : Nonempty (Value)) (nePair (⟨default⟩ : Nonempty (Value)) (nePair (⟨default⟩ : Nonempty (Value)) (nePair (⟨default⟩ : Nonempty (Value)) (nePair (⟨default⟩ : Nonempty (Value)) (nePair (⟨default⟩ : Nonempty (Value)) (nePair (⟨default⟩ : Nonempty (Option Addr)) (nePair (⟨default⟩ : Nonempty (Option Addr)) (nePair (⟨default⟩ : Nonempty (Str)) (nePair (⟨default⟩ : Nonempty (Str)) (nePair (⟨default⟩ : Nonempty (Arguments)) (nePair (⟨default⟩ : Nonempty (List Stmt)) (nePair (⟨default⟩ : Nonempty (Scope)) (nePair (⟨default⟩ : Nonempty (Array (Option Value))) (nePair (⟨default⟩ : Nonempty (Heap)) (nePair (⟨default⟩ : Nonempty (Heap)) (nePair (⟨default⟩ : Nonempty (Array GenState)) (nePair (⟨default⟩ : Nonempty (Tok)) (nePair (⟨default⟩ : Nonempty (Str → Option Value)) (nePair (⟨default⟩ : Nonempty (Int)) (nePair (⟨default⟩ : Nonempty (Int)) (nePair (⟨default⟩ : Nonempty (Tok)) (nePair (⟨default⟩ : Nonempty (Tok)) (nePair (⟨default⟩ : Nonempty (Nat)) (nePair (⟨default⟩ : Nonempty (Nat)) (nePair (⟨default⟩ : Nonempty (Nat)) (nePair (⟨default⟩ : Nonempty (Nat)) (nePair (⟨default⟩ : Nonempty (List Value)) (nePair (⟨default⟩ : Nonempty (List Value)) (nePair (⟨default⟩ : Nonempty (List Value)) (nePair (⟨default⟩ : Nonempty (List Int)) (nePair (⟨default⟩ : Nonempty (Obj)) (nePair (⟨default⟩ : Nonempty (Obj)) (nePair (⟨default⟩ : Nonempty (Obj)) (nePair (⟨default⟩ : Nonempty (Obj)) (nePair (⟨default⟩ : Nonempty (Str)) (nePair (⟨default⟩ : Nonempty (List D)) (nePair (⟨default⟩ : Nonempty (Flow → Shared → Prop)) (⟨default⟩ : Nonempty (Value → Shared → Prop))))))))))))))))))))))))))))))))))))))))))))))))))))) CL2.Pp CL2.core
  exact h ⟨w, s, mean, mg, mb, L', hand, words, scr, a, x, pl, oc, dV, kV, doc, pm, cdv, ct, od, an, name, qual, params, body, scope, osl, h8, S, gs, tk, m₀, k', b', ta, tb, kh, kw, ep, N, ws, ss, pv, ns, c4, c3, c2, c1, lab, ds, Q, E⟩ X T ho F N0 hc1 hc4 hc3 hc2 uS sL soff lh lw ls hI hnl hk0 hk1 dB tT hpl hM dlv hN hW dht dsz hQ
end
namespace CL1
noncomputable section
abbrev Tup : Type := (World) × (Shared) × (ExcName → Option Value) × (Str → Option Value) × (Str → Option Value) × (Addr) × (List Value) × (List Int) × (Result → Shared → Prop)
def Pp : Tup → Prop := fun tt9 => (fun (w : World) (s : Shared) (mean : ExcName → Option Value) (mg : Str → Option Value) (mb : Str → Option Value) (l : Addr) (vs : List Value) (ns : List Int) (R : Result → Shared → Prop) => ∀ (X : (hd.heap_1 w.params).In s.heap) (T : TopH mean mg mb s.heap) (hl : s.heap.IsList l vs.toArray) (hi : IntsAre vs ns) (hn : ns.length ≤ 63) (hg : s.gens = #[]) (hQ : ∀ s' : Shared, s.heap.StaysIn s'.heap → s'.os = s.os → AllBare s'.gens → R (.ok (.ret (.bool true))) s'), codeAny (model prog w) callerA (.call (.ref 199) ⟨[.ref l], []⟩) R s) tt9.1 tt9.2.1 tt9.2.2.1 tt9.2.2.2.1 tt9.2.2.2.2.1 tt9.2.2.2.2.2.1 tt9.2.2.2.2.2.2.1 tt9.2.2.2.2.2.2.2.1 tt9.2.2.2.2.2.2.2.2
def cc : Tup := @Classical.epsilon Tup (nePair neWorld (nePair neShared (nePair (⟨default⟩ : Nonempty (ExcName → Option Value)) (nePair (⟨default⟩ : Nonempty (Str → Option Value)) (nePair (⟨default⟩ : Nonempty (Str → Option Value)) (nePair (⟨default⟩ : Nonempty (Addr)) (nePair (⟨default⟩ : Nonempty (List Value)) (nePair (⟨default⟩ : Nonempty (List Int)) (⟨default⟩ : Nonempty (Result → Shared → Prop)))))))))) fun t => ¬ Pp t
def w : World := cc.1
def s : Shared := cc.2.1
def mean : ExcName → Option Value := cc.2.2.1
def mg : Str → Option Value := cc.2.2.2.1
def mb : Str → Option Value := cc.2.2.2.2.1
def l : Addr := cc.2.2.2.2.2.1
def vs : List Value := cc.2.2.2.2.2.2.1
def ns : List Int := cc.2.2.2.2.2.2.2.1
def R : Result → Shared → Prop := cc.2.2.2.2.2.2.2.2
def L' : Addr := s.heap.objs.size
theorem core (X : (hd.heap_1 w.params).In s.heap) (T : TopH mean mg mb s.heap) (hl : s.heap.IsList l vs.toArray) (hi : IntsAre vs ns) (hn : ns.length ≤ 63) (hg : s.gens = #[]) (hQ : ∀ s' : Shared, s.heap.StaysIn s'.heap → s'.os = s.os → AllBare s'.gens → R (.ok (.ret (.bool true))) s') : codeAny (model prog w) callerA (.call (.ref 199) ⟨[.ref l], []⟩) R s := by
  k_dflt (refine' enterC (L₀ := L') (binds := [(Str.ofString "script", .ref l)]) X T.nolimit ?k6 ?k7 ?k8 ?k9 ?kB ?kD ?_ ?c2 ?c3 ?c4; (case k6 => k_is); (case k7 => k_is); (case k8 => decide); (case k9 => first | exact BindsTo.of_eq rfl | exact binds_K X rfl (by k_is) rfl rfl rfl); (case kB => exact rfl); (case kD => decide +kernel); (case c2 => exact rfl); (case c3 => exact rfl); (case c4 => exact rfl))
  intro h₁ tk cells F N Y up
  (try dsimp only)
  k_fold
  k_cells Y
  rename_i o1 o2 o3 o4 d1 d2 d3 d4
  replace d1 : o1.data = .cell none := d1
  replace d2 : o2.data = .cell none := d2
  replace d3 : o3.data = .cell none := d3
  replace d4 : o4.data = .cell none := d4
  have hlen := hi.length
  k_steps
  rename Fr _ _ _ _ => F1
  rename News _ _ _ _ => N1
  rename IntsAre _ (List.take 50 ns) => hI1
  obtain ⟨ss, hss⟩ := ints_name hI1
  subst hss
  have l50 : (List.take 50 ns).length ≤ 63 := by rw [List.length_take]; omega
  obtain ⟨words, hwords⟩ := head_name N1
  dsimp only at hwords
  subst hwords
  obtain ⟨hand, hhand⟩ := head_name (fun p hp => N1 p (.tail _ hp))
  dsimp only at hhand
  subst hhand
  obtain ⟨scr, hscr⟩ := head_name (fun p hp => N1 p (.tail _ (.tail _ hp)))
  dsimp only at hscr
  subst hscr
  have nw := N1 _ (.head _)
  have nh := N1 _ (.tail _ (.head _))
  have nsc := N1 _ (.tail _ (.tail _ (.head _)))
  rename scr < hand ∧ _ => lh
  rename L' + 1 + 1 + 1 + 1 < scr ∧ _ => l1
  rename hand < words ∧ _ => lw
  k_dflt refine' (Stop.mk (drawn_ok 4 (k := 0) (b := 8) (m := 0) X T F1.keep (show 301 + 1 + 4 + 15 < recursionLimit by decide) (show 4 + 3 + 60 * 4 + 100 < cLine from (by have := cLine_is; omega)) rfl ⟨_, _, _, nh.1⟩ nh.2.2 nw.2.2 (Nat.ne_of_lt lh.1) (Nat.ne_of_lt lw.2.1) (Nat.ne_of_lt lw.1) (isList_at nsc.1) hI1 l50 (by decide) (by decide) (by decide) (by decide) nw.1 .nil (by decide) ?_))
  intro a d j k' b' ws' kw' h2 tk2 kp2 dA dl dht dsz hw2 hWs hH2 hk1 hk2 hb1 hb2
  obtain ⟨ta2, tb2, kh2, hH2⟩ := hH2
  have Nr := News.sub (news' := (hand, _) :: (words, _) :: (scr, _) :: _) N1 (fun p hp => by
    rcases List.mem_cons.mp hp with rfl | hp
    · exact .tail _ (.head _)
    · rcases List.mem_cons.mp hp with rfl | hp
      · exact .head _
      · rcases List.mem_cons.mp hp with rfl | hp
        · exact .tail _ (.tail _ (.head _))
        · exact .tail _ (.tail _ (.tail _ hp)))
  have lw1 := lw.1
  have lw2 := lw.2.1
  have lh1 := lh.1
  have nhw := neN (Nat.ne_of_lt lw1)
  have nsh := neN (Nat.ne_of_lt lh1)
  have nsw := neN (Nat.ne_of_lt lw2)
  have hL1 : L' < h2.objs.size := by
    have h1 := F1.ns.lt
    obtain ⟨o, _, _, e, _⟩ := F1.ns
    exact Heap.lt_size (kp2 _ _ (fun q => by
      rcases List.mem_cons.mp q with q | q
      · exact nh.2.1 q.symm
      · exact nw.2.1 (List.mem_singleton.mp q).symm) e)
  obtain ⟨F2, N2⟩ := hand_call2 F1 Nr (fun q hq => by
    rcases List.mem_cons.mp hq with rfl | hq
    · exact ⟨nsh, nsw⟩
    · rcases List.mem_cons.mp hq with rfl | hq
      · exact ⟨Nat.ne_of_lt lh.2.1, Nat.ne_of_lt lw.2.2.1⟩
      · rcases List.mem_cons.mp hq with rfl | hq
        · exact ⟨Nat.ne_of_lt lh.2.2.1, Nat.ne_of_lt lw.2.2.2.1⟩
        · rcases List.mem_cons.mp hq with rfl | hq
          · exact ⟨Nat.ne_of_lt lh.2.2.2.1, Nat.ne_of_lt lw.2.2.2.2.1⟩
          · rw [List.mem_singleton.mp hq]
            exact ⟨Nat.ne_of_lt lh.2.2.2.2, Nat.ne_of_lt lw.2.2.2.2.2⟩) kp2 hH2 hw2
  have sL0 : s.heap.get? L' = none := by
    cases q : s.heap.get? L' with
    | none => rfl
    | some o => exact absurd (Heap.lt_size q) (Nat.not_lt.mpr F1.above)
  obtain ⟨S1, N3, u1, u2, e1, e2, e3, e4⟩ := refreezeA (S := s.heap) _ [hand, words, scr, L' + 1 + 1 + 1 + 1, L' + 1 + 1 + 1, L' + 1 + 1, L' + 1] rfl F2 N2 (fun _ h => h) (by rw [frz_self]; exact fun _ q => nomatch q) (stays_refl _) sL0 (News.offs N2 rfl)
  have dB : DrawnAt (newer s.heap S1) (.ref a) d := dA.up (newer_frzA F1 (News.thereA Nr rfl) e3)
  clear N2 Nr N1 F1 dA e3
  (try dsimp only)
  k_steps
  rename Fr _ _ _ _ => F3
  rename News _ _ _ _ => N4
  refine Stop.mk (cutF F3 (AfterIf s L' hand words scr a (W.listOf #[Value.ref scr, Value.int k' ta2, Value.int b' tb2] kh2) (W.listOf ss.toArray 0)) ?_ ?_)
  · skip --B1
    have N4a := N4
    simp only [List.cons_append, List.nil_append] at N4
    have lW := hWs.length
    rw [List.length_range, Nat.zero_add] at lW
    have s1h := e2 hand (by simp)
    have s1w := e2 words (by simp)
    rcases Nat.eq_zero_or_pos j with rfl | hj
    · obtain rfl : ws' = [] := List.length_eq_zero_iff.mp lW
      have dB' := dB
      cases dB with
      | node ha hl hlen hch =>
      rename_i pl lab t kk items ds
      obtain ⟨ha0, ha1⟩ := newer_iff.mp ha
      obtain ⟨hl0, hl1⟩ := newer_iff.mp hl
      obtain ⟨S2, N5, v1, v2, v3, v4⟩ := thaw F3 N4a u1 hl1 hl0
      have off2 : ∀ q ∈ [hand, words, scr, L' + 1 + 1 + 1 + 1, L' + 1 + 1 + 1, L' + 1 + 1, L' + 1], S2.get? q = none := fun q hq => by
        cases e : S2.get? q with
        | none => rfl
        | some o => have := v4 _ _ e; rw [e2 q hq] at this; cases this
      have npl : ∀ q ∈ [hand, words, scr, L' + 1 + 1 + 1 + 1, L' + 1 + 1 + 1, L' + 1 + 1, L' + 1], q ≠ pl := fun q hq e => by
        subst e; rw [e2 _ hq] at hl1; cases hl1
      have napl : a ≠ pl := by
        rintro rfl
        rw [ha1] at hl1
        injection hl1 with e
        injection e with e
        exact absurd e (by decide)
      have hS2a := v3 _ _ napl ha1
      have p1 := neN (npl hand (by simp)); have p2 := neN (npl words (by simp)); have p3 := neN (npl scr (by simp)); have p4 := neN (npl (L' + 1 + 1 + 1 + 1) (by simp)); have p5 := neN (npl (L' + 1 + 1 + 1) (by simp)); have p6 := neN (npl (L' + 1 + 1) (by simp)); have p7 := neN (npl (L' + 1) (by simp))
      have N6 : News s.heap L' _ ((a, tupO #[Value.str lab t, Value.ref pl]) :: (pl, W.listOf items.toArray kk) :: (hand, _) :: (words, W.listOf #[] kw') :: (scr, _) :: (L' + 1 + 1 + 1 + 1, _) :: (L' + 1 + 1 + 1, _) :: (L' + 1 + 1, _) :: (L' + 1, _) :: frz s.heap S2) := fun p hp => by
        rcases List.mem_cons.mp hp with rfl | hp
        · exact N5 _ (.tail _ (List.mem_append_right _ (mem_frz.mpr ⟨ha0, hS2a⟩)))
        · exact N5 p hp
      have naq : ∀ q ∈ [hand, words, scr, L' + 1 + 1 + 1 + 1, L' + 1 + 1 + 1, L' + 1 + 1, L' + 1], q ≠ a := fun q hq e => by
        subst e; rw [off2 _ hq] at hS2a; cases hS2a
      have q1 := neN (naq hand (by simp)); have q2 := neN (naq words (by simp)); have q3 := neN napl
      have s2p := v2
      have s2h := off2 hand (by simp)
      have s2w := off2 words (by simp)
      have hil : items.length ≤ 99999 := by
        have h1 := len_le_sizeL ds
        have hz : (1 + 3 * zN 4 : Nat) ≤ 400 := by decide
        simp only [D.size] at dsz
        omega
      clear N5 N4 N4a
      refine wpAny_If ?_
      k_steps
      rename Fr _ _ _ _ => F5
      rename News _ _ _ _ => N7
      refine Stop.mk (SeqAt.eq_listAt (e := fun _ => true) (isList_at (N7 _ (.tail _ (.tail _ (.tail _ (.tail _ (.head _)))))).1) (isList_at (N7 _ (.head _)).1) rfl (show 4 + 3 < cLine from (by have := cLine_is; omega)) (fun j h1 h2 => absurd h1 (Nat.not_lt_zero _)) ?_)
      k_steps
      rename Fr _ _ _ _ => F8
      rename News _ _ _ _ => N8
      have hpl8 := N8 _ (.tail _ (.tail _ (.head _)))
      have ha8 := N8 _ (.tail _ (.head _))
      have offL2 : S2.get? L' = none := by
        cases e : S2.get? L' with
        | none => rfl
        | some o => have := v4 _ _ e; rw [e1] at this; cases this
      obtain ⟨S3, N9, x1, x2, x3, x4, x5, x6⟩ := refreezeP [_, _, _] [_, _, _, _, _, _, _] [hand, words, scr, L' + 1 + 1 + 1 + 1, L' + 1 + 1 + 1, L' + 1 + 1, L' + 1] rfl F8 N8 v1 offL2 off2
      have hw0 : Str.ofString "w0" = wordStr 0 := by decide
      have hpl9 := x5 pl _ hpl8.1 hpl8.2.1 (fun hm => npl _ hm rfl)
      have ha9 := x5 a _ ha8.1 ha8.2.1 (fun hm => naq _ hm rfl)
      have hle : leavesL ds = [] := dl
      have hDs : Drawns (newer s.heap S3) items ds := ⟨hlen, fun i v d e1 e2 => DrawnAt.off (h := newer s.heap S1) (l := pl) hl hlen hch (fun b o nb e => newer_iff.mpr ⟨(newer_iff.mp e).1, x2 _ _ (v3 _ _ nb (newer_iff.mp e).2)⟩) (hch i v d e1 e2) (size_lt (List.mem_of_getElem? e2))⟩
      dsimp only at hpl9
      rw [List.push_toArray, hw0] at hpl9
      obtain ⟨tw, htw⟩ : ∃ t : Tok, S3.get? pl = some (W.listOf (items ++ [Value.str (wordStr 0) t]).toArray (kk + 1)) := ⟨_, hpl9⟩
      have hDs' := hDs.snoc (DrawnAt.leaf (i := 0) (t := tw))
      have hz : (1 + 3 * zN 4 : Nat) ≤ 399 := by decide
      refine ⟨rfl, _, _, [_], _, _, _, _, _, S3, .node lab (ds ++ [.leaf 0]), 1, rfl, F8, N9, by assumption, d1, d2, d3, x1, x3, x4, .node (newer_iff.mpr ⟨ha0, ha9⟩) (newer_iff.mpr ⟨hl0, htw⟩) hDs'.1 hDs'.2, ?_, Nat.one_pos, ?_, ?_, ?_, _, _, rfl⟩
      · simp [D.leaves, leavesL_append, hle, leavesL]
      · rw [hw0]; exact Words.one _ _
      · simp only [D.ht, htL_append, htL] at dht ⊢; omega
      · simp only [D.size, sizeL_append, sizeL] at dsz ⊢; omega
    · obtain ⟨w0, wr, rfl⟩ := List.exists_cons_of_ne_nil (fun e : ws' = [] => by rw [e] at lW; simp at lW; omega)
      refine wpAny_If ?_
      k_steps
      rename Fr _ _ _ _ => F5
      rename News _ _ _ _ => N5
      refine Stop.mk (SeqAt.eq_list_lengthsAt (isList_at (N5 _ (.tail _ (.tail _ (.head _)))).1) (isList_at (N5 _ (.head _)).1) (by simp) (show 4 + 3 < cLine from (by have := cLine_is; omega)) ?_)
      k_steps
      rename Fr _ _ _ _ => F6
      rename News _ _ _ _ => N6
      have hz : (1 + 3 * zN 4 : Nat) ≤ 400 := by decide
      refine ⟨rfl, _, _, w0 :: wr, kw', _, _, _, _, S1, d, j, rfl, F6, News.sub N6 (fun p hp => .tail _ hp), by assumption, d1, d2, d3, u1, e1, e2, dB, by rw [dl, List.range_eq_range'], hj, by rw [Nat.zero_add] at hWs; exact hWs, dht, Nat.le_trans dsz hz, ?_⟩
      cases dB with
      | node => exact ⟨_, _, rfl⟩
    skip --E1
  · clear F3 N4
    rintro fl s' ⟨rfl, h3, tk3, ws, kw, c4, c3, c2, c1, S, dd, N, rfl, F4, N4, hc1, hc4, hc3, hc2, u3, sL, soff, dB2, dlv, hN, hW, dht2, dsz2, lab, ds, rfl⟩
    clear d1 d2 d3 d4
    dsimp only at N4 ⊢
    k_steps
    rename Fr _ _ _ _ => F4
    rename News _ _ _ _ => N4
    have uh4 := up_of F4 N4 (fun p hp => List.mem_append_right [_, _, _, _, _, _, _] hp) u3
    k_dflt refine' (Stop.mk (ltree_ok 6 (.node lab ds) (by omega) X T F4.keep (show 301 + 1 + 2 * 6 + 16 < recursionLimit by decide) (show 4 + 3 + 60 * 6 + 90 < cLine from (by have := cLine_is; omega)) rfl ((dB2.up (newer_sub _ _)).up uh4) (by omega) ?_))
    intro r h5 tk5 kp5 tT
    obtain ⟨F6, N6⟩ := pure_call F4 N4 kp5
    obtain ⟨S2, N7, y1, y2, y3, y4, y5, y6⟩ := refreezeP [] [_, _, _, _, _, _, _] [hand, words, scr, L' + 1 + 1 + 1 + 1, L' + 1 + 1 + 1, L' + 1 + 1, L' + 1] rfl F6 N6 u3 sL soff
    have tT2 := tT.up (newer_frzA F4 (News.thereA (AL := [hand, words, scr, L' + 1 + 1 + 1 + 1, L' + 1 + 1 + 1, L' + 1 + 1, L' + 1]) (News.sub (news' := [_, _, _, _, _, _, _]) N4 (fun p hp => List.mem_append_left (frz s.heap S) hp)) rfl) y5)
    have dB3 := dB2.up (newer_up (stays_refl _) y2)
    obtain ⟨x, rfl⟩ : ∃ x, r = .ref x := by cases tT; exact ⟨_, rfl⟩
    clear N6 N4 F4 tT y5 y6 y2 dB2 u3 sL soff uh4
    (try dsimp only)
    k_steps
    rename Fr _ _ _ _ => F7
    rename News _ _ _ _ => N8
    obtain ⟨V, tV⟩ := (tT2.up (newer_sub _ _)).exV
    have gV := tV.goods
    obtain ⟨dx, t1, t2, t3, cx, hx, hdx⟩ : ∃ dx t1 t2 t3 cx, S2.get? x = some (instObj 145 dx) ∧ S2.get? dx = some (dictOf (treeEs w t1 t2 cx lab t3) 2) := by
      have q := tT2.up (newer_sub _ _)
      cases q with
      | node h1 h2 => exact ⟨_, _, _, _, _, h1, h2⟩
    k_dflt refine' (Stop.mk (assign_genComp (cl := []) rfl (show 301 + 1 < recursionLimit by decide) (by with_unfolding_all rfl) rfl rfl (by with_unfolding_all rfl) (by decide) rfl (by decide) rfl ?_ (fun _ => rfl)))
    k_steps
    rename Fr _ _ _ _ => F8
    rename News _ _ _ _ => N9
    have uh8 := up_of F8 N9 (fun p hp => List.mem_append_right [_, _, _, _, _, _, _] hp) y1
    have hal8 : ∀ q ∈ [hand, words, scr, L' + 1 + 1 + 1 + 1, L' + 1 + 1 + 1, L' + 1 + 1, L' + 1], ∃ o, _ := News.thereA (News.sub (news' := [_, _, _, _, _, _, _]) N9 (fun p hp => List.mem_append_left (frz s.heap S2) hp)) rfl
    k_dflt refine' (Stop.mk (subs_ok 5 (.node lab ds) V dht2 (X.keeps y1) (T.keeps y1) uh8 (show 301 + 1 + 2 < recursionLimit by decide) tV ?_))
    intro a6 L6 gs6 h7 tk7 kp7 ha7 hL7 hoa7 hoL7 hgb mkG
    refine Stop.mk ?_
    have hgen := (mkG ⟨none, 0, none, none, 0⟩ [] [] { s with heap := h7, toks := tk7, gens := s.gens.push gs6 } rfl (show 0 + 5 + 3 < recursionLimit by decide) (show 0 + 40 * 5 + 40 < cLine from (by have := cLine_is; omega)) (stays_refl _) (by simp) (fun _ q => nomatch q) (fun _ q => nomatch q)).1
    obtain ⟨F9, N10⟩ := pure_call F8 N9 kp7
    have uh7 := stays_trans uh8 kp7.stays
    obtain ⟨g, g1, g2, g3, g4, g5⟩ : ∃ g : Heap, S2.StaysIn g ∧ g.StaysIn h7 ∧ g.objs.size ≤ h7.objs.size ∧ (∀ q ∈ L' :: [hand, words, scr, L' + 1 + 1 + 1 + 1, L' + 1 + 1 + 1, L' + 1 + 1, L' + 1], ∀ o, h7.get? q = some o → g.get? q = some o) ∧
        (∀ b o, g.get? b = some o → (S2.get? b).isSome = true ∨ b ∈ L' :: [hand, words, scr, L' + 1 + 1 + 1 + 1, L' + 1 + 1 + 1, L' + 1 + 1, L' + 1]) := by
      refine ⟨only h7 fun b => (S2.get? b).isSome || decide (b ∈ L' :: [hand, words, scr, L' + 1 + 1 + 1 + 1, L' + 1 + 1 + 1, L' + 1 + 1, L' + 1]), fun b o e => only_iff.mpr ⟨uh7 b o e, ?_⟩, only_sub _ _, Nat.le_of_eq (only_size _ _), fun q hq o e => only_iff.mpr ⟨e, ?_⟩, fun b o e => ?_⟩
      · rw [Bool.or_eq_true]; exact .inl (by rw [e]; rfl)
      · rw [Bool.or_eq_true]; exact .inr (decide_eq_true hq)
      · have := (only_iff.mp e).2
        rw [Bool.or_eq_true] at this
        exact this.imp id of_decide_eq_true
    have Xg := X.keeps (stays_trans y1 g1)
    have Tg := T.keeps (stays_trans y1 g1)
    have hal9 := alive_cons F8 hal8
    have hal7 : ∀ q ∈ L' :: [hand, words, scr, L' + 1 + 1 + 1 + 1, L' + 1 + 1 + 1, L' + 1 + 1, L' + 1], (∃ o, h7.get? q = some o) ∧ q ≠ a6 ∧ q ≠ L6 ∧ S2.get? q = none := fun q hq => by
      obtain ⟨o, e⟩ := hal9 q hq
      refine ⟨⟨o, kp7 _ _ (fun q => nomatch q) e⟩, ne_of_none e ha7, ne_of_none e hL7, ?_⟩
      rcases List.mem_cons.mp hq with rfl | hq
      · exact y3
      · exact y4 _ hq
    refine ⟨a6, _, V, g, S2, L' :: [hand, words, scr, L' + 1 + 1 + 1 + 1, L' + 1 + 1 + 1, L' + 1 + 1, L' + 1], fun i acc S' => Mets (newer g S') acc ((D.node lab ds).subs.take i), _, F9.ns.at' (fun o e => g4 _ (.head _) o e), rfl, hgen, Tg.nolimit, ?_, g2, g3, g5, .nil, ?_, ?_, ?_⟩
    · have := subs_len (.node lab ds)
      rw [gV.1]; omega
    · intro D' C s₂ eD eC st eg hoD hoC
      obtain ⟨o1, e1⟩ := hoa7
      obtain ⟨o2, e2⟩ := hoL7
      have hD' : h7.objs.size ≤ D' := Nat.le_of_eq eD.symm
      have hC' : h7.objs.size ≤ C := by rw [eC]; exact Nat.le_succ_of_le hD'
      refine mkG _ _ [] s₂ rfl (show 301 + 1 + 5 + 3 < recursionLimit by decide) (show 4 + 3 + 1 + 40 * 5 + 40 < cLine from (by have := cLine_is; omega)) st (by rw [eg]; simp) (fun b hb => ?_) (fun _ q => nomatch q)
      rcases List.mem_cons.mp hb with rfl | hb
      · exact ⟨hoD, (ne_of_size e1 hD').symm, (ne_of_size e2 hD').symm, none_up uh7 (Heap.get?_none_of_le hD')⟩
      · rcases List.mem_cons.mp hb with rfl | hb
        · exact ⟨hoC, (ne_of_size e1 hC').symm, (ne_of_size e2 hC').symm, none_up uh7 (Heap.get?_none_of_le hC')⟩
        · obtain ⟨⟨o, e⟩, n1, n2, n3⟩ := hal7 b hb
          exact ⟨⟨o, st _ _ e⟩, n1, n2, n3⟩
    · intro D' C i v m acc ep S' H h8 tk8 gs8 eD eC hv hJ gS' SH hHD hHC hpv F N
      skip --B2
      clear F8 F9 N9 N10 kp7
      obtain ⟨e, he⟩ : ∃ e, (D.node lab ds).subs[i]? = some e := by
        have h1 := (List.getElem?_eq_some_iff.mp hv).1
        exact ⟨_, List.getElem?_eq_getElem (gV.1 ▸ h1)⟩
      obtain ⟨tE, y, lab', ds', rfl, rfl⟩ := gV.2 i v e hv he
      have hsm := subs_small _ _ (List.mem_of_getElem? he)
      have tEg := tE.up g1
      obtain ⟨dy, u1, u2, u3, cy, kk, items, hy, hdy, hcy, hln⟩ : ∃ dy u1 u2 u3 cy kk items, g.get? y = some (instObj 145 dy) ∧ g.get? dy = some (dictOf (treeEs w u1 u2 cy lab' u3) 2) ∧ g.get? cy = some (W.listOf (List.toArray items) kk) ∧ items.length = ds'.length := by
        cases tEg with
        | node h1 h2 h3 h4 => exact ⟨_, _, _, _, _, _, _, h1, h2, h3, h4⟩
      have hil : items.length ≤ 100000 := by
        have h1 := len_le_sizeL ds'
        have h2 := hsm.2
        simp only [D.size] at h2 dsz2
        omega
      clear tE dB3 tT2 tV gV hx hdx
      subst eC
      k_steps
      rename Fr _ _ _ _ => F
      rename News _ _ _ _ => N
      k_dflt refine' (Stop.mk (label_ok Xg Tg F.keep (show 301 + 1 + 10 < recursionLimit by decide) (show 4 + 3 + 80 < cLine from (by have := cLine_is; omega)) rfl (F.keep _ _ hy) (F.keep _ _ hdy) (F.keep _ _ hcy) hil ?_))
      intro tl h9 tk9 kp9
      obtain ⟨F9, N9⟩ := pure_call F N kp9
      clear F N
      (try dsimp only)
      k_steps
      rename Fr _ _ _ _ => F
      rename News _ _ _ _ => N
      k_dflt refine' (Stop.mk (leaves_ok 5 (.node lab' ds') (by omega) Xg Tg F.keep (show 301 + 1 + 5 + 2 < recursionLimit by decide) (show 4 + 3 + 40 * 5 + 40 < cLine from (by have := cLine_is; omega)) rfl (tEg.up F.keep) (by omega) ?_))
      intro r vl kl h10 tk10 kp10 hr0 hr1 hwl
      obtain ⟨F10, N10, hne⟩ := fresh_call F N kp10 hr0 hr1
      clear F N
      (try dsimp only)
      k_steps
      rename Fr _ _ _ _ => F
      rename News _ _ _ _ => N
      obtain ⟨tt, htt⟩ := head_name N
      dsimp only at htt
      subst htt
      have nt := N _ (.head _)
      have nr := N _ (.tail _ (.head _))
      have nt1 : tt ≠ D' + 1 := nt.2.1
      have nr1 : r ≠ D' + 1 := nr.2.1
      have uH := up_of F N (fun p hp => .tail _ (.tail _ (.tail _ hp))) (stays_trans gS' SH)
      rename r < tt ∧ _ => lt1
      have nDt : D' ≠ tt := Nat.ne_of_lt lt1.2.1
      have nDr : D' ≠ r := hne _ (.head _)
      refine Stop.mk ?_
      refine ⟨_, _, _, only _ (fun b => (S'.get? b).isSome || (b == tt || b == r)), rfl, F, News.sub N (fun p hp => .tail _ (.tail _ hp)), only_sub _ _, fun b o e => only_iff.mpr ⟨F.keep b o e, by simp [gS' b o e]⟩, only_none (by simp [none_up SH hHD, nDt, nDr]), only_none (by simp [none_up SH hHC, Ne.symm nt1, Ne.symm nr1]), fun b o e => ?_, ?_⟩
      · obtain ⟨e1, p⟩ := only_iff.mp e
        simp only [Bool.or_eq_true, beq_iff_eq] at p
        rcases p with p | rfl | rfl
        · obtain ⟨o', e'⟩ := Option.isSome_iff_exists.mp p
          have q := uH b o' (SH b o' e')
          rw [e1] at q
          cases q
          exact hpv b o e'
        · have q := nt.1
          rw [e1] at q
          cases q
          exact .inl rfl
        · have q := nr.1
          rw [e1] at q
          cases q
          exact .inl rfl
      · show Mets _ (acc ++ [Value.ref tt]) (List.take (i + 1) _)
        rw [take_snoc he]
        exact (hJ.up (newer_up (stays_refl g) fun b o e => only_iff.mpr ⟨uH b o (SH b o e), by simp [e]⟩)).snoc ⟨tt, r, lab', ds', tl, vl, kl, rfl, rfl, newer_iff.mpr ⟨nt.2.2, only_iff.mpr ⟨nt.1, by simp⟩⟩, newer_iff.mpr ⟨nr.2.2, only_iff.mpr ⟨nr.1, by simp⟩⟩, hwl⟩
      skip --E2
    · intro D' acc ep S' h8 tk8 gs8 eD hJ gS' hSD keep hns hDl hbare
      have hD' : h7.objs.size ≤ D' := Nat.le_of_eq eD.symm
      have sg := stays_trans y1 g1
      have F11 : Fr s.heap L' h8 _ := ⟨hns, fun b o e => keep b o (fun q => by rw [show b = L' from q, none_up y1 y3] at e; cases e) (gS' _ _ (sg _ _ e)), F9.above⟩
      have nD8 : ∀ q ∈ L' :: [hand, words, scr, L' + 1 + 1 + 1 + 1, L' + 1 + 1 + 1, L' + 1 + 1, L' + 1], q ≠ D' := fun q hq => let ⟨o, e⟩ := (hal7 q hq).1; ne_of_size e hD'
      have g8 : ∀ q ∈ L' :: [hand, words, scr, L' + 1 + 1 + 1 + 1, L' + 1 + 1 + 1, L' + 1 + 1, L' + 1], ∃ o, g.get? q = some o := fun q hq => let ⟨o, e⟩ := (hal7 q hq).1; ⟨o, g4 q hq o e⟩
      have N11 : News s.heap L' h8 ((D', W.listOf acc.toArray ep) :: ([(hand, _), (words, _), (scr, _), (L' + 1 + 1 + 1 + 1, _), (L' + 1 + 1 + 1, _), (L' + 1 + 1, _), (L' + 1, _)] ++ frz s.heap S2)) := fun p hp => by
        rcases List.mem_cons.mp hp with rfl | hp
        · exact ⟨hDl, (nD8 L' (.head _)).symm, none_up (stays_trans sg gS') hSD⟩
        · have q := N10 p hp
          refine ⟨keep _ _ q.2.1 (gS' _ _ ?_), q.2⟩
          rcases List.mem_append.mp hp with hm | hm
          · exact g4 _ (.tail _ (List.mem_map_of_mem (f := (·.1)) hm)) _ q.1
          · exact g1 _ _ (mem_frz.mp hm).2
      obtain ⟨S3, N12, z1, z2, z3, z4, z5, z6⟩ := refreezeP [_] [_, _, _, _, _, _, _] [hand, words, scr, L' + 1 + 1 + 1 + 1, L' + 1 + 1 + 1, L' + 1 + 1, L' + 1] rfl F11 N11 y1 y3 y4
      have uM : (newer g S').StaysIn (newer s.heap S3) := fun b o e => by
        obtain ⟨e1, e2⟩ := newer_iff.mp e
        have nb : ∀ q ∈ L' :: [hand, words, scr, L' + 1 + 1 + 1 + 1, L' + 1 + 1 + 1, L' + 1 + 1, L' + 1], b ≠ q := fun q hq r => by
          obtain ⟨o', e'⟩ := g8 q hq
          rw [r, e'] at e1; cases e1
        have nL := nb L' (.head _)
        exact newer_iff.mpr ⟨none_up sg e1, z5 b o (keep b o nL e2) nL fun hm => nb b (.tail _ hm) rfl⟩
      have hM := hJ.up uM
      rw [gV.1, List.take_length] at hM
      have hDl3 : (newer s.heap S3).get? D' = some (W.listOf acc.toArray ep) := newer_iff.mpr ⟨none_up (stays_trans sg gS') hSD, z5 D' _ hDl (nD8 L' (.head _)).symm (fun hm => nD8 D' (.tail _ hm) rfl)⟩
      have dB4 := dB3.up (newer_up (stays_refl _) z2)
      have tT3 := tT2.up (newer_up (stays_refl _) z2)
      have hb0 : AllBare s.gens := by rw [hg]; exact fun y hy => absurd hy (Array.not_mem_empty y)
      have hb8 : AllBare gs8 := hbare (AllBare.push hb0 hgb)
      clear N11 N10 F9 F8 N9 uM hJ
      k_dflt refine' (loops_ok X T (by k_is) F11 N12 hc1 hc4 hc3 hc2 z1 z3 z4 lh lw l1 hI1 l50 hk1 (by have : (2 + 3 * eN 4 : Nat) ≤ 90000 := (by decide); omega) dB4 tT3 hDl3 hM dlv hN hW dht2 dsz2 ?_)
      intro h' tk' k9
      exact hQ _ k9 rfl hb8
end
end CL1
theorem law_ok {w : World} {s : Shared} {mean : ExcName → Option Value} {mg : Str → Option Value} {mb : Str → Option Value} {l : Addr} {vs : List Value} {ns : List Int} {R : Result → Shared → Prop} (X : (hd.heap_1 w.params).In s.heap) (T : TopH mean mg mb s.heap) (hl : s.heap.IsList l vs.toArray) (hi : IntsAre vs ns) (hn : ns.length ≤ 63) (hg : s.gens = #[]) (hQ : ∀ s' : Shared, s.heap.StaysIn s'.heap → s'.os = s.os → AllBare s'.gens → R (.ok (.ret (.bool true))) s') : codeAny (model prog w) callerA (.call (.ref 199) ⟨[.ref l], []⟩) R s := by
  have h : ∀ t, CL1.Pp t := epsAll (nePair neWorld (nePair neShared (nePair (⟨default⟩ : Nonempty (ExcName → Option Value)) (nePair (⟨default⟩ : Nonempty (Str → Option Value)) (nePair (⟨default⟩ : Nonempty (Str → Option Value)) (nePair (⟨default⟩ : Nonempty (Addr)) (nePair (⟨default⟩ : Nonempty (List Value)) (nePair (⟨default⟩ : Nonempty (List Int)) (⟨default⟩ : Nonempty (Result → Shared → Prop)))))))))) CL1.Pp CL1.core
  exact h ⟨w, s, mean, mg, mb, l, vs, ns, R⟩ X T hl hi hn hg hQ
end
end
end
end
end
end
end
end Mine
open Mine
theorem PySem.Challenge.cw_be0027_01_holds : PySem.Challenge.rw_be0027_01.Holds := by
  refine hd ?_
  k_fill
  intro w s₀ s₁ mg mb G Y fa o pm cd doc dV kV ho hd' hcd hD hmg hg args vals as hpre hlay hrd hwl hlo
  have KX := kIn_of Y
  have X := (Ground.X G).1
  have V := (Ground.X G).2
  refine Ground.open G ?_
  intro T B D TE TW
  try (refine guard_noD D (by decide +kernel) ?_; clear D)
  obtain ⟨_, _, M⟩ := bmod_of_top T
  have TA := at_of_top T
  try (obtain ⟨_, _, he, B0⟩ := based_of_top T rfl hmg ho hd'; have he' : cd = _ := he; subst he'; clear he)
  wrow_args hpre hlay hrd hwl hlo
  all_goals (first | refine callC_kw (enter_call ?_) | refine enter_call ?_ | refine callC_kw (enter_callW ?_) | refine enter_callW ?_ | w_how)
  rename IntsAre _ _ => hI
  rename Heap.IsList _ _ _ => hL
  rename ¬ ((63 : Nat) : Int) < _ => hcond
  have hfa : fa = 199 := by
    have e := mg_of (n := Str.ofString "law") (v := .ref 199) KX T.g (by k_is)
    have q := hmg.symm.trans e
    injection q with q
    injection q
  subst hfa
  have hl := hI.length
  k_dflt refine' law_ok KX T hL hI (by omega) hg ?_
  intro s' k os bare
  exact ⟨.inl ⟨_, .bool true, [], rfl, fun _ => rfl, .bool true, by with_unfolding_all rfl, fun _ => ⟨.nil, fun a h => nomatch h⟩⟩, .of_keep k, os, bare⟩
