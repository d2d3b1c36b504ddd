import PyProof.Rows.All
import Wide.All
import OpenK.AllK
import Wide.FinOn
import PySem.Challenge.RW_ul0003_01
set_option Elab.async false
set_option rowWalk.seconds 0

section
set_option maxRecDepth 100000
open PySem PySem.W PyProof.Rows
set_option maxHeartbeats 8000000
namespace Mine
open_top hd for PySem.Challenge.rw_ul0003_01
end Mine
end

namespace Mine
section
open PySem PySem.W PySem.Calls PyProof.Rows
set_option maxRecDepth 100000
set_option linter.unusedVariables false
local macro_rules | `(tactic| omega) => `(tactic| (k_whole; first | with_reducible assumption | lia))

section
/-- everything that stood in h stands in h' -/
def Ext (h h' : Heap) : Prop := ∀ b o, h.get? b = some o → h'.get? b = some o
theorem Ext.refl (h : Heap) : Ext h h := fun _ _ e => e
theorem Ext.trans {a b c : Heap} (x : Ext a b) (y : Ext b c) : Ext a c := fun d o e => y d o (x d o e)
theorem Fr.ext {h₀ h h' : Heap} {L : Addr} {m : Str → Option Value} (F : Fr h₀ L h m) (e : Ext h h') : Fr h₀ L h' m :=
  ⟨F.ns.keeps e, fun b o q => e b o (F.keep b o q), F.above⟩
theorem News.ext {h₀ h h' : Heap} {L : Addr} {news : List (Addr × Obj)} (N : News h₀ L h news) (e : Ext h h') : News h₀ L h' news :=
  fun p hp => ⟨e _ _ (N p hp).1, (N p hp).2⟩
/-- an object that a call has made goes onto the ledger -/
theorem News.cons {h₀ h h₁ : Heap} {L a : Addr} {o : Obj} {m : Str → Option Value} {news : List (Addr × Obj)} (F : Fr h₀ L h m) (N : News h₀ L h₁ news)
    (_e : Ext h h₁) (hn : h.get? a = none) (ho : h₁.get? a = some o) : News h₀ L h₁ ((a, o) :: news) := by
  intro p hp
  rcases List.mem_cons.mp hp with rfl | hp
  · refine ⟨ho, ?_, ?_⟩
    · intro q
      obtain ⟨oL, _, _, hL, _⟩ := F.ns
      have q' : a = L := q
      rw [← q', hn] at hL; cases hL
    · cases hq : h₀.get? a with
      | none => rfl
      | some o' => have := F.keep _ _ hq; rw [hn] at this; cases this
  · exact N p hp


section
variable {prog : Program} {w : World} {A : Around} {s : Shared} {Q E : Value → Shared → Prop} {p : Program} {loose : List Str} {mean : ExcName → Option Value} {mg mb : Str → Option Value}
  {name qual : Str} {params : Arguments} {body : List Stmt} {scope : Scope} {dV kV doc pm cdv ct oc : Value} {an od : Option Addr} {osl : Array (Option Value)} {f : Addr} {args : List Value} {binds : List (Str × Value)}

/-- the call of a def without cells: its body is walked from a frame of its own, over all that stood -/
theorem enter {K : Frag} (X : K.In s.heap) (T : Top p loose mean mg mb s.heap)
    (ho : K.lookup f = some ⟨oc, od, .func (fnOf name qual params body scope dV kV doc pm an cdv ct), osl⟩) (hcd : codeIn K cdv qual = true) (hroom : A.depth < recursionLimit)
    (hbind : BindsTo s (fnOf name qual params body scope dV kV doc pm an cdv ct) ⟨args, []⟩ binds) (hloc : ∀ y ∈ binds, scope.names.lookup y.1 = some .local)
    (h : ∀ g L' h₁ tk, g = s.heap → L' = s.heap.objs.size → Fr g L' h₁ (fun y => binds.reverse.lookup y) → News g L' h₁ [] → K.In g → Top p loose mean mg mb g →
      wpAny (model prog w) (A.deeper (envOf qual scope L' f cdv)) (execs body (envOf qual scope L' f cdv))
        (fun fl s' => Q (match fl with | .ret v => v | _ => .none) s') (fun _ _ => False) { s with heap := h₁, toks := tk })
    (hco : scope.isCoroutine = false := by rfl) (hgen : scope.isGenerator = false := by rfl) (hk : scope.kind = .function := by rfl)
    (hcell : ∀ x ∈ scope.names, x.2 ≠ .cell := by decide) : wpAny (model prog w) A (call (.ref f) args) Q E s := by
  refine wpAny_call ?_
  refine codeAny_call_def (fd := fnOf name qual params body scope dV kV doc pm an cdv ct) (body := body) (binds := binds) hroom (X _ _ ho) rfl T.nolimit (codeRec_of X hcd) rfl hbind hcell hloc (fun h₁ hns hk₁ => ?_) hco hgen hk
  exact wpAny_mono (h _ _ h₁ _ rfl rfl ⟨hns, hk₁, Nat.le_refl _⟩ News.nil X T) (fun fl s' hl => hl) fun _ _ y => y.elim
end

/-- only so that k_fill finds the text and the written part in a goal -/
def Fill (_ : Params → Frag) (_ : OpenLaw) : Prop := True
end

section
/-- the ledger of all that stands in h, but for what hT has and for what lies at ex -/
def All (hT : Heap) (ex : List Addr) (h : Heap) : List (Addr × Obj) :=
  (List.range h.objs.size).filterMap fun a => if a ∈ ex ∨ (hT.get? a).isSome = true then none else (h.get? a).map fun o => (a, o)
theorem mem_All {hT h : Heap} {ex : List Addr} {a : Addr} {o : Obj} : (a, o) ∈ All hT ex h ↔ h.get? a = some o ∧ a ∉ ex ∧ hT.get? a = none := by
  unfold All
  rw [List.mem_filterMap]
  constructor
  · rintro ⟨b, hb, e⟩
    split at e
    · cases e
    · rename_i hn
      rw [not_or] at hn
      cases hq : h.get? b with
      | none => rw [hq] at e; cases e
      | some o' =>
        rw [hq] at e
        have e' : (b, o') = (a, o) := Option.some.inj e
        cases e'
        refine ⟨hq, hn.1, ?_⟩
        cases ht : hT.get? a with
        | none => rfl
        | some x => exact absurd (by rw [ht]; rfl) hn.2
  · rintro ⟨h1, h2, h3⟩
    refine ⟨a, List.mem_range.mpr (Heap.lt_size h1), ?_⟩
    rw [if_neg (by rw [h3]; intro q; rcases q with q | q; exact h2 q; cases q), h1]
    rfl

section
variable {hT h h' : Heap} {L : Addr} {m : Str → Option Value} {news led : List (Addr × Obj)}

theorem led_all (F : Fr hT L h m) (ex : List Addr) : ∃ G, News hT L h G ∧ (∀ b o, h.get? b = some o → b ∉ ex → b ≠ L → hT.get? b = none → (b, o) ∈ G) ∧ (∀ p ∈ G, p.1 ∉ ex ∧ p.1 ≠ L) ∧ (∀ p ∈ G, p.1 < h.objs.size) := by
  refine ⟨All hT (L :: ex) h, ?_, ?_, ?_, ?_⟩
  · rintro ⟨a, o⟩ hp
    obtain ⟨h1, h2, h3⟩ := mem_All.mp hp
    exact ⟨h1, fun q => h2 (by rw [show a = L from q]; exact .head _), h3⟩
  · intro b o hb hx hL ht
    exact mem_All.mpr ⟨hb, fun q => by rcases List.mem_cons.mp q with q | q; exact hL q; exact hx q, ht⟩
  · rintro ⟨a, o⟩ hp
    obtain ⟨h1, h2, h3⟩ := mem_All.mp hp
    exact ⟨fun q => h2 (.tail _ q), fun q => h2 (by rw [show a = L from q]; exact .head _)⟩
  · rintro ⟨a, o⟩ hp
    exact Heap.lt_size (mem_All.mp hp).1

/-- what a ledger over G keeps -/
theorem kept_of {h₁ : Heap} {G : List (Addr × Obj)} {ex : List Addr} (hK : Ext hT h₁) (hG : ∀ b o, h₁.get? b = some o → b ∉ ex → b ≠ L → hT.get? b = none → (b, o) ∈ G) (F : Fr hT L h m) (N : News hT L h led)
    (hs : ∀ p ∈ G, p ∈ led) : ∀ b o, h₁.get? b = some o → b ∉ ex → b ≠ L → h.get? b = some o := by
  intro b o hb hx hL
  cases ht : hT.get? b with
  | some o' =>
    have := hK b o' ht
    rw [hb] at this
    cases this
    exact F.keep b o ht
  | none => exact (N _ (hs _ (hG b o hb hx hL ht))).1

/-- a list of ints that the run has made -/
def LI (hT h : Heap) (a : Addr) (xs : List Int) : Prop := hT.get? a = none ∧ ∃ vs n, h.get? a = some (listOf (List.toArray vs) n) ∧ IntsAre vs xs
theorem LI.mono {a : Addr} {xs : List Int} (x : LI hT h a xs) (k : ∀ o, h.get? a = some o → h'.get? a = some o) : LI hT h' a xs :=
  let ⟨t, vs, n, g, i⟩ := x; ⟨t, vs, n, k _ g, i⟩
theorem LI.ext {a : Addr} {xs : List Int} (x : LI hT h a xs) (k : Ext h h') : LI hT h' a xs := x.mono fun o e => k a o e
theorem ns_ne (F : Fr hT L h m) {a : Addr} {o : Obj} {xs : Array Value} {n : Nat} (e : h.get? a = some o) (hd : o.data = .seq xs n) : a ≠ L := by
  rintro rfl
  obtain ⟨oL, es, ep, hL, hd', _⟩ := F.ns
  rw [hL] at e; cases e; rw [hd] at hd'; cases hd'
theorem LI.ne {a : Addr} {xs : List Int} (x : LI hT h a xs) (F : Fr hT L h m) : a ≠ L := let ⟨_, vs, n, g, i⟩ := x; ns_ne F g rfl
theorem LI.isList {a : Addr} {xs : List Int} (x : LI hT h a xs) : ∃ vs, h.IsList a (List.toArray vs) ∧ IntsAre vs xs :=
  let ⟨_, vs, n, g, i⟩ := x; ⟨vs, ⟨_, g, rfl, n, rfl⟩, i⟩
theorem ne_news {r : Addr} (N : News hT L h led) (hf : h.get? r = none) : ∀ p ∈ led, p.1 ≠ r := fun p hp q => by
  have := (N p hp).1
  rw [q, hf] at this; cases this
def AllNe (d : Addr) : List (Addr × Obj) → Prop
  | [] => True
  | p :: r => @Ne Nat p.1 d ∧ AllNe d r
theorem allNe_of {d : Addr} : ∀ {l : List (Addr × Obj)}, (∀ p ∈ l, p.1 ≠ d) → AllNe d l
  | [], _ => trivial
  | p :: _, h => ⟨h p (.head _), allNe_of fun q hq => h q (.tail _ hq)⟩
theorem of_allNe {d : Addr} : ∀ {l : List (Addr × Obj)}, AllNe d l → ∀ p ∈ l, p.1 ≠ d
  | [], _, _, hp => nomatch hp
  | q :: r, h, p, hp => by
    rcases List.mem_cons.mp hp with rfl | hp
    · exact h.1
    · exact of_allNe h.2 p hp
theorem orNe {r row : Addr} (N : News hT L h led) (f : r = row ∨ h.get? r = none) : @Eq Nat r row ∨ AllNe r led := f.imp id fun q => allNe_of (ne_news N q)
theorem Fr_but {D : Addr} (F : Fr hT L h m) (k : ∀ b o, b ≠ D → h.get? b = some o → h'.get? b = some o) (hD : hT.get? D = none) (hL : D ≠ L) : Fr hT L h' m := by
  obtain ⟨oL, es, ep, g, r⟩ := F.ns
  exact ⟨⟨oL, es, ep, k _ _ (Ne.symm hL) g, r⟩, fun b o e => k b o (fun q => by rw [q, hD] at e; cases e) (F.keep b o e), F.above⟩
theorem News_but {D : Addr} {o : Obj} {G : List (Addr × Obj)} (N : News hT L h G) (hne : ∀ p ∈ G, p.1 ≠ D) (k : ∀ b o, b ≠ D → h.get? b = some o → h'.get? b = some o) (hD : hT.get? D = none) (hL : D ≠ L) (g : h'.get? D = some o) : News hT L h' ((D, o) :: G) := fun p hp => by
  rcases List.mem_cons.mp hp with rfl | hp
  · exact ⟨g, hL, hD⟩
  · exact ⟨k _ _ (hne p hp) (N p hp).1, (N p hp).2⟩
theorem ne_data {a b : Addr} {oa ob : Obj} (N : News hT L h led) (ha : (a, oa) ∈ led) (hb : (b, ob) ∈ led) {va : Array Value} {vb : Option Value} (h1 : oa.data = .fields va) (h2 : ob.data = .cell vb) : @Ne Nat a b := fun q => by
  have e1 := (N _ ha).1
  have e2 := (N _ hb).1
  have q' : a = b := q
  subst q'
  dsimp only at e1 e2
  rw [e1] at e2; cases e2
  rw [h1] at h2; cases h2
theorem notin1 {a D : Addr} (h : @Ne Nat a D) : a ∉ [D] := fun q => h (List.mem_singleton.mp q)
theorem LI.of_news {a : Addr} {vs : List Value} {n : Nat} {xs : List Int} (N : News hT L h news) (hm : (a, listOf (List.toArray vs) n) ∈ news) (i : IntsAre vs xs) : LI hT h a xs :=
  ⟨(N _ hm).2.2, vs, n, (N _ hm).1, i⟩

/-- a frame's names, told by a list of those that matter -/
theorem Fr_names (l : List (Str × Value)) (F : Fr hT L h m) (hl : ∀ p ∈ l, m p.1 = some p.2) : Fr hT L h (fun y => (l.lookup y).or (m y)) := by
  have e : (fun y => (l.lookup y).or (m y)) = m := by
    funext y
    cases q : l.lookup y with
    | none => rfl
    | some v =>
      show some v = m y
      clear F
      induction l with
      | nil => cases q
      | cons p r ih =>
        obtain ⟨a, b⟩ := p
        rw [List.lookup_cons] at q
        by_cases hy : (y == a) = true
        · simp only [hy] at q
          cases q
          rw [show y = a from by simpa using hy]
          exact (hl (a, v) (.head _)).symm
        · simp only [hy] at q
          exact ih (fun p hp => hl p (.tail _ hp)) q
  rw [e]; exact F

theorem seqs_of (F : Fr hT L h m) (k : ∀ b o, h.get? b = some o → b ∉ ([] : List Addr) → b ≠ L → h'.get? b = some o) : ∀ b o, (∃ xs n, o.data = .seq xs n) → h.get? b = some o → h'.get? b = some o :=
  fun b o ⟨_, _, hd⟩ e => k b o e (by simp) (ns_ne F e hd)
theorem mem_lift {α : Type} {p : α} {G l : List α} (hp : p ∈ G) (hs : ∀ q ∈ G, q ∈ l) : p ∈ l := hs p hp
end

theorem of_allLt {d : Addr} : ∀ {l : List (Addr × Obj)}, AllLt d l → ∀ p ∈ l, p.1 < d
  | [], _, _, hp => nomatch hp
  | q :: r, h, p, hp => by
    rcases List.mem_cons.mp hp with rfl | hp
    · exact h.1
    · exact of_allLt h.2 p hp
/-- what is newer than all the ledger did not stand before -/
theorem fresh_of {hT h : Heap} {G : List (Addr × Obj)} {D : Addr} (hG : ∀ b o, h.get? b = some o → hT.get? b = none → (b, o) ∈ G) (hD : hT.get? D = none) (hl : ∀ p ∈ G, p.1 < D) : h.get? D = none := by
  cases q : h.get? D with
  | none => rfl
  | some o => exact absurd (hl _ (hG D o q hD)) (Nat.lt_irrefl _)
/-- a turn's ledger -/
theorem turn_led {hT hB h : Heap} {L : Addr} {m : Str → Option Value} {G : List (Addr × Obj)} (F : Fr hT L h m) (eB : Ext hB h) (hGs : ∀ p ∈ G, hB.get? p.1 = some p.2 ∧ hT.get? p.1 = none) (hBL : hB.get? L = none) (ex : List Addr) (hex : ∀ D ∈ ex, hB.get? D = none) :
    ∃ G3, News hT L h G3 ∧ (∀ p ∈ G, p ∈ G3) ∧ (∀ b o, h.get? b = some o → b ∉ ex → b ≠ L → hT.get? b = none → (b, o) ∈ G3) ∧ (∀ p ∈ G3, p.1 ∉ ex) ∧
      (∀ h' m' led, Fr hT L h' m' → News hT L h' led → (∀ p ∈ G3, p ∈ led) → ∀ b o, h.get? b = some o → b ∉ ex → b ≠ L → h'.get? b = some o) ∧
      (∀ h' m' led, Fr hT L h' m' → News hT L h' led → (∀ p ∈ G3, p ∈ led) → Ext hB h') := by
  obtain ⟨G3, N3, a, b, c⟩ := led_all F ex
  have hoff : ∀ b o, hB.get? b = some o → b ∉ ex ∧ b ≠ L := fun b o e => ⟨fun q => (by rw [hex b q] at e; cases e), fun q => (by rw [q, hBL] at e; cases e)⟩
  refine ⟨G3, N3, fun p hp => ?_, a, fun p hp => (b p hp).1, fun h' m' led F' N' hs => kept_of F.keep a F' N' hs, fun h' m' led F' N' hs b o e => ?_⟩
  · obtain ⟨g1, g2⟩ := hGs p hp
    exact a _ _ (eB _ _ g1) (hoff _ _ g1).1 (hoff _ _ g1).2 g2
  · exact kept_of F.keep a F' N' hs b o (eB b o e) (hoff b o e).1 (hoff b o e).2
/-- hT stands in h -/
structure On (hT h : Heap) : Prop where
  keep : Ext hT h
  size : hT.objs.size ≤ h.objs.size
theorem On.of {hT h : Heap} {L : Addr} {m : Str → Option Value} (F : Fr hT L h m) : On hT h := ⟨F.keep, Nat.le_of_lt (Nat.lt_of_le_of_lt F.above F.ns.lt)⟩

section
variable {prog : Program} {w : World} {A : Around} {σ : Heap} {σg : Array GenState} {σd : Drawn} {σt : Nat} {σo : OsState} {Q : Value → Shared → Prop} {E : Value → Shared → Prop} {p : Program} {loose : List Str} {mean : ExcName → Option Value} {mg mb : Str → Option Value}
  {name qual : Str} {params : Arguments} {body : List Stmt} {scope : Scope} {dV kV doc pm cdv ct oc : Value} {an od : Option Addr} {osl : Array (Option Value)} {f : Addr} {args : List Value} {binds : List (Str × Value)} {hT : Heap}

/-- the call of a def without cells, over the ledger of all that stands -/
theorem enterG {K : Frag} (X : K.In hT) (T : Top p loose mean mg mb hT) (hK : On hT σ)
    (ho : K.lookup f = some ⟨oc, od, .func (fnOf name qual params body scope dV kV doc pm an cdv ct), osl⟩) (hcd : codeIn K cdv qual = true) (hroom : A.depth < recursionLimit)
    (hbind : BindsTo ⟨σ, σg, σd, σt, σo⟩ (fnOf name qual params body scope dV kV doc pm an cdv ct) ⟨args, []⟩ binds) (hloc : ∀ y ∈ binds, scope.names.lookup y.1 = some .local)
    (h : ∀ G L' h₁ tk, (∀ b o, σ.get? b = some o → hT.get? b = none → (b, o) ∈ G) → (∀ p ∈ G, σ.get? p.1 = some p.2 ∧ hT.get? p.1 = none) → (∀ p ∈ G, p.1 < L') → (∀ h' m' led, Fr hT L' h' m' → News hT L' h' led → (∀ q ∈ G, q ∈ led) → Ext σ h') →
      σ.get? L' = none → Fr hT L' h₁ (fun y => binds.reverse.lookup y) → News hT L' h₁ G → Ext σ h₁ →
      wpAny (model prog w) (A.deeper (envOf qual scope L' f cdv)) (execs body (envOf qual scope L' f cdv))
        (fun fl s' => Q (match fl with | .ret v => v | _ => .none) s') (fun _ _ => False) ⟨h₁, σg, σd, tk, σo⟩)
    (hco : scope.isCoroutine = false := by rfl) (hgen : scope.isGenerator = false := by rfl) (hk : scope.kind = .function := by rfl)
    (hcell : ∀ x ∈ scope.names, x.2 ≠ .cell := by decide) : wpAny (model prog w) A (call (.ref f) args) Q E ⟨σ, σg, σd, σt, σo⟩ := by
  refine enter (X.keeps hK.keep) (T.keeps hK.keep) ho hcd hroom hbind hloc (fun g L' h₁ tk hg hL F N X' T' => ?_) hco hgen hk hcell
  have hg := hg.symm; subst hg
  have hsz : ∀ b o, σ.get? b = some o → b < L' := fun b o e => by rw [hL]; exact Heap.lt_size e
  refine h (All hT [] σ) L' h₁ tk (fun b o e ht => mem_All.mpr ⟨e, by simp, ht⟩) (fun ⟨a, o⟩ hp => ⟨(mem_All.mp hp).1, (mem_All.mp hp).2.2⟩) ?_ ?_ (by
    cases q : σ.get? L' with
    | none => rfl
    | some o => exact absurd (hsz _ _ q) (Nat.lt_irrefl _)) ⟨F.ns, fun b o e => F.keep b o (hK.keep b o e), by rw [hL]; exact hK.size⟩ ?_ F.keep
  · rintro ⟨a, o⟩ hp; exact hsz a o (mem_All.mp hp).1
  · intro h' m' led F' N' hs
    intro b o e
    refine kept_of (ex := []) (L := L') hK.keep (fun b o e _ _ ht => mem_All.mpr ⟨e, by simp, ht⟩) F' N' hs b o e (by simp) (Nat.ne_of_lt (hsz b o e))
  · rintro ⟨a, o⟩ hp
    obtain ⟨h1, _, h3⟩ := mem_All.mp hp
    exact ⟨F.keep _ _ h1, Nat.ne_of_lt (hsz _ _ h1), h3⟩
end
end

section
/-- lists and tuples stay -/
def Seqs (h h' : Heap) : Prop := ∀ b o, (∃ xs n, o.data = .seq xs n) → h.get? b = some o → h'.get? b = some o
theorem LI.seqs {hT h h' : Heap} {a : Addr} {xs : List Int} (x : LI hT h a xs) (k : Seqs h h') : LI hT h' a xs := x.mono fun o e => k a o (by
  obtain ⟨_, vs, n, g, _⟩ := x; rw [g] at e; cases e; exact ⟨_, _, rfl⟩) e
theorem Seqs.of_ext {h h' : Heap} (k : Ext h h') : Seqs h h' := fun b o _ e => k b o e
/-- a list, a tuple, or an object of fields that is no range's iterator -/
def Stays (o : Obj) : Prop := (∃ xs n, o.data = .seq xs n) ∨ ∃ vs, o.data = .fields vs ∧ ∀ x l st, vs ≠ #[rawInt x, rawInt l, rawInt st]
theorem Stays.iter {x l st : Int} {c : Value} {d : Option Addr} {sl : Array (Option Value)} (h : Stays ⟨c, d, .fields #[rawInt x, rawInt l, rawInt st], sl⟩) : False := by
  rcases h with ⟨xs, n, h⟩ | ⟨vs, h, k⟩
  · cases h
  · cases h; exact k _ _ _ rfl
theorem Stays.dict {o : Obj} {es : _} {ep : _} (h : Stays o) (hd : o.data = .dict es ep) : False := by
  rcases h with ⟨xs, n, h⟩ | ⟨vs, h, k⟩
  · rw [hd] at h; cases h
  · rw [hd] at h; cases h
def KeptS (h h' : Heap) : Prop := ∀ b o, Stays o → h.get? b = some o → h'.get? b = some o
theorem KeptS.seqs {h h' : Heap} (k : KeptS h h') : Seqs h h' := fun b o hd e => k b o (.inl hd) e
theorem fresh_top {hT h : Heap} {L : Addr} {m : Str → Option Value} (F : Fr hT L h m) : hT.get? h.objs.size = none := by
  cases q : hT.get? h.objs.size with
  | none => rfl
  | some o => exact absurd (Heap.lt_size (F.keep _ _ q)) (Nat.lt_irrefl _)
theorem fresh_ext {hB h : Heap} (e : Ext hB h) : hB.get? h.objs.size = none := by
  cases q : hB.get? h.objs.size with
  | none => rfl
  | some o => exact absurd (Heap.lt_size (e _ _ q)) (Nat.lt_irrefl _)
theorem Fr.by_wr {hT h h' : Heap} {L : Addr} {m : Str → Option Value} {wr : List Addr} (F : Fr hT L h m) (hwr : ∀ b ∈ wr, hT.get? b = none ∧ b ≠ L) (k : ∀ b o, b ∉ wr → h.get? b = some o → h'.get? b = some o) : Fr hT L h' m := by
  obtain ⟨⟨oL, es, ep, hL, r⟩, hk, ha⟩ := F
  refine ⟨⟨oL, es, ep, k _ _ (fun q => (hwr _ q).2 rfl) hL, r⟩, fun b o e => k b o (fun q => ?_) (hk b o e), ha⟩
  rw [(hwr b q).1] at e; cases e

section
variable {prog : Program} {w : World} {A : Around} {σ : Heap} {σg : Array GenState} {σd : Drawn} {σt : Nat} {σo : OsState} {Q : Flow → Shared → Prop} {E : Value → Shared → Prop} {env : Env} {hT : Heap} {L : Addr} {m : Str → Option Value}

/-- a for's turns; a turn's end is the name K -/
theorem code_walk {I : Addr} {fp wr : List Addr} {n : Nat} {P : Nat → Value → Prop} {St : Nat → Heap → Prop} {target : Expr} {body : List Stmt} {R : Result → Shared → Prop} (W : Walks prog w A I fp wr n P St)
    (J : Nat → (Str → Option Value) → Heap → Prop) (hst : St 0 σ) (F : Fr hT L σ m) (h0 : J 0 m σ) (hwr : ∀ b ∈ wr, hT.get? b = none ∧ b ≠ L)
    (hJ : ∀ i m h h', J i m h → St i h → (∀ b o, b ∉ wr → h.get? b = some o → h'.get? b = some o) → J i m h')
    (turn : ∀ i v m h tk, i < n → P i v → J i m h → Fr hT L h m → St (i + 1) h → ∀ K : Flow → Shared → Prop, (∀ h' tk' m', Fr hT L h' m' → (∀ b ∈ fp, ∀ o, h.get? b = some o → h'.get? b = some o) → J (i + 1) m' h' → K .next ⟨h', σg, σd, tk', σo⟩) →
      wpAny (model prog w) A (assign target env v) (fun _ s₂ => wpAny (model prog w) A (execs body env) K (fun _ _ => False) s₂) (fun _ _ => False) ⟨h, σg, σd, tk, σo⟩)
    (done : ∀ m h tk, J n m h → Fr hT L h m → R (.ok .next) ⟨h, σg, σd, tk, σo⟩)
    (hgo : ∀ i v (s : Shared) (Q : Unit → Shared → Prop) (E : Value → Shared → Prop), P i v → St (i + 1) s.heap → Q () s → wpAny (model prog w) A (letOwnedTupleGo target (.ref I) v) Q E s) :
    codeAny (model prog w) A (.forLoop target (.ref I) body [] env) R ⟨σ, σg, σd, σt, σo⟩ := by
  refine codeAny_forLoop_any (fun k s' => ∃ i m h tk, s' = ⟨h, σg, σd, tk, σo⟩ ∧ k = n + 1 - i ∧ i ≤ n ∧ Fr hT L h m ∧ St i h ∧ J i m h) ?_ (n + 1) ⟨0, m, σ, σt, rfl, rfl, Nat.zero_le _, F, hst, h0⟩
  rintro k s' ⟨i, m₁, h₁, tk₁, rfl, rfl, hin, F₁, st₁, j₁⟩
  by_cases hlt : i < n
  · refine W.item i _ _ _ hlt st₁ fun v h' tk' hP st' k' => ?_
    refine hgo i v _ _ _ hP st' ?_
    refine wpAny_mono (turn i v m₁ h' tk' hlt hP (hJ _ _ _ _ j₁ st₁ k') (Fr.by_wr F₁ hwr k') st' _ ?hK) (fun _ s₂ h₂ => wpAny_mono h₂ (fun f s₃ h₃ => h₃) fun _ _ e => e.elim) fun _ _ e => e.elim
    intro h'' tk'' m' F' kf j'
    exact ⟨n + 1 - (i + 1), by omega, i + 1, m', h'', tk'', rfl, rfl, hlt, F', W.frame _ _ _ st' kf, j'⟩
  · have e : i = n := by omega
    subst e
    refine W.done _ _ _ st₁ fun h' tk' k' => wpAny_execs_nil ?_
    exact done m₁ h' tk' (hJ _ _ _ _ j₁ st₁ k') (Fr.by_wr F₁ hwr k')

theorem small_of {lo hi : Int} (h1 : -(2 ^ 62) ≤ lo) (h2 : lo < 2 ^ 62) (h3 : -(2 ^ 62) ≤ hi) (h4 : hi < 2 ^ 62) : Builtin.Range.small lo hi 1 = true := small_one h1 h2 h3 h4

/-- the range that a for begins with -/
def RangeAt (hT hB : Heap) (L : Addr) (σg : Array GenState) (σd : Drawn) (σo : OsState) (lo : Int) (n : Nat) (J : Nat → (Str → Option Value) → Heap → Prop) (xv : Value) (s₁ : Shared) : Prop :=
  ∃ R t u v m h tk, xv = .ref R ∧ s₁ = ⟨h, σg, σd, tk, σo⟩ ∧ IsRange h R lo (lo + n) 1 t u v ∧ Fr hT L h m ∧ Ext hB h ∧ J 0 m h
theorem RangeAt.intro {hT hB : Heap} {L : Addr} {lo hi : Int} {n : Nat} {J : Nat → (Str → Option Value) → Heap → Prop} {R : Addr} {t u v : Tok} {h : Heap} {tk : Nat} {m : Str → Option Value}
    (hR : IsRange h R lo hi 1 t u v) (e : hi = lo + n) (F : Fr hT L h m) (x : Ext hB h) (j : J 0 m h) : RangeAt hT hB L σg σd σo lo n J (.ref R) ⟨h, σg, σd, tk, σo⟩ :=
  ⟨R, t, u, v, m, h, tk, rfl, rfl, e ▸ hR, F, x, j⟩
/-- for x in range(lo, lo + n), what is made in the turns told in full -/
theorem for_rangeS (hB : Heap) {x : Str} {px pos : Pos} {iter : Expr} {body : List Stmt} (hL : env.locals = L) (hx : env.kindOf x = some .local)
    (hp : (env.scope.kind == ScopeKind.class || env.scope.kind == ScopeKind.module && env.locals != env.globals) = false) (hh : A.handled = none)
    (J : Nat → (Str → Option Value) → Heap → Prop) (lo : Int) (n : Nat) (hlo : -(2 ^ 61) ≤ lo) (hlo' : lo ≤ 2 ^ 61) (hn : n < 2 ^ 61) (hBL : hB.get? L = none)
    (hJ : ∀ i m h h', J i m h → KeptS h h' → J i m h')
    (hiter : wpAny (model prog w) A (eval iter env) (RangeAt hT hB L σg σd σo lo n J) (fun _ _ => False) ⟨σ, σg, σd, σt, σo⟩)
    (turn : ∀ i m h tk it oit t, i < n → J i m h → Ext hB h → Fr hT L h (fun y => if y = x then some (.int (lo + i) t) else m y) → h.get? it = some oit → (∃ a b c, oit.data = .fields #[rawInt a, rawInt b, rawInt c]) → hT.get? it = none → hB.get? it = none → it ≠ L →
      ∀ K : Flow → Shared → Prop, (∀ h' tk' m', Fr hT L h' m' → Ext hB h' → h'.get? it = some oit → J (i + 1) m' h' → K .next ⟨h', σg, σd, tk', σo⟩) → wpAny (model prog w) A (execs body env) K (fun _ _ => False) ⟨h, σg, σd, tk, σo⟩)
    (done : ∀ m h tk, J n m h → Ext hB h → Fr hT L h m → Q .next ⟨h, σg, σd, tk, σo⟩)
    (hs : ∀ x, foldedSetIterable iter env x = pure x := by intro _; rfl) :
    wpAny (model prog w) A (exec (.For (.Name x px) iter body [] pos) env) Q E ⟨σ, σg, σd, σt, σo⟩ := by
  refine wpAny_For (wpAny_mono hiter (fun xv s₁ h₁ => ?_) fun _ _ e => e.elim) hs
  obtain ⟨R, t, u, v, m, h, tk, rfl, rfl, hR, F, eB, j⟩ := h₁
  refine wpAny_pyIter_range hR (small_of (by omega) (by omega) (by omega) (by omega)) ?_
  have hsz : Builtin.Range.rangeSize lo (lo + n) 1 = (n : Int) := by rw [rangeSize_one]; split <;> omega
  have hfr := fresh_top F
  have hfB := fresh_ext eB
  have hIL : h.objs.size ≠ L := Nat.ne_of_gt F.ns.lt
  refine code_walk (hT := hT) (L := L) (m := m) (Walks.range hh h.objs.size lo 1 n) (fun i m h => J i m h ∧ Ext hB h) ?_ (F.push _) ⟨hJ _ _ _ _ j fun b o _ e => Heap.get?_push_of_some _ e, fun b o e => Heap.get?_push_of_some _ (eB b o e)⟩ ?_ ?_ ?_ ?_ (fun _ _ _ _ _ _ _ q => wpAny_pure q)
  · have e1 : (lo + ((0 : Nat) : Int) * 1) = lo := by simp
    have e2 : ((n : Int) - ((0 : Nat) : Int)) = Builtin.Range.rangeSize lo (lo + n) 1 := by rw [hsz]; simp
    show IsRangeIter _ _ (lo + ((0 : Nat) : Int) * 1) ((n : Int) - ((0 : Nat) : Int)) 1
    rw [e1, e2]
    exact Heap.get?_push_size _ rfl
  · intro b hb
    rw [List.mem_singleton.mp hb]
    exact ⟨hfr, hIL⟩
  · rintro i m' h₁ h₂ ⟨j₁, eB₁⟩ st k
    refine ⟨hJ _ _ _ _ j₁ fun b o hd e => k b o (fun q => ?_) e, fun b o e => k b o (fun q => ?_) (eB₁ b o e)⟩
    · rw [List.mem_singleton.mp q] at e
      have st' : IsRangeIter h₁ h.objs.size (lo + (i : Int) * 1) ((n : Int) - i) 1 := st
      rw [st'] at e; cases e
      exact hd.iter
    · rw [List.mem_singleton.mp q, hfB] at e; cases e
  · rintro i v' m' h₁ tk₁ hi ⟨t', hv⟩ ⟨j₁, eB₁⟩ F₁ st K hK
    subst hv
    refine wpAny_assign_Name ?_
    subst hL
    refine wpAny_storeName_local hx F₁.ns (fun h₂ hn₂ hs₂ => ?_) hp
    have e1 : (lo + (i : Int) * 1) = lo + i := by simp
    have st' : IsRangeIter h₁ h.objs.size (lo + ((i + 1 : Nat) : Int) * 1) ((n : Int) - ((i + 1 : Nat) : Int)) 1 := st
    refine turn i m' h₂ _ h.objs.size _ t' hi (hJ _ _ _ _ j₁ fun b o hd e => ?_) (fun b o e => (hs₂.2 b fun q => ?_).trans (eB₁ b o e)) (by have := F₁.set hn₂ hs₂; rw [e1] at this; exact this) ((hs₂.2 _ hIL).trans st') ⟨_, _, _, rfl⟩ hfr hfB hIL K ?_
    · refine (hs₂.2 b fun q => ?_).trans e
      subst q
      obtain ⟨oL, es, ep, hL, hd', _⟩ := F₁.ns
      rw [hL] at e; cases e
      exact hd.dict hd'
    · rw [q, hBL] at e; cases e
    · intro h' tk' m'' F' eB' hit j'
      refine hK h' tk' m'' F' (fun b hb o e => ?_) ⟨j', eB'⟩
      rw [List.mem_singleton.mp hb] at e ⊢
      exact hit.trans (st'.symm.trans e)
  · rintro m' h₁ tk₁ ⟨j₁, eB₁⟩ F₁
    exact done m' h₁ tk₁ j₁ eB₁ F₁
/-- for x in range(lo, lo + n) -/
theorem for_range (hB : Heap) {x : Str} {px pos : Pos} {iter : Expr} {body : List Stmt} (hL : env.locals = L) (hx : env.kindOf x = some .local)
    (hp : (env.scope.kind == ScopeKind.class || env.scope.kind == ScopeKind.module && env.locals != env.globals) = false) (hh : A.handled = none)
    (J : Nat → (Str → Option Value) → Heap → Prop) (lo : Int) (n : Nat) (hlo : -(2 ^ 61) ≤ lo) (hlo' : lo ≤ 2 ^ 61) (hn : n < 2 ^ 61) (hBL : hB.get? L = none)
    (hJ : ∀ i m h h', J i m h → Seqs h h' → J i m h')
    (hiter : wpAny (model prog w) A (eval iter env) (RangeAt hT hB L σg σd σo lo n J) (fun _ _ => False) ⟨σ, σg, σd, σt, σo⟩)
    (turn : ∀ i m h tk it oit t, i < n → J i m h → Ext hB h → Fr hT L h (fun y => if y = x then some (.int (lo + i) t) else m y) → h.get? it = some oit → (∃ vs, oit.data = .fields vs) → hT.get? it = none → hB.get? it = none → it ≠ L →
      ∀ K : Flow → Shared → Prop, (∀ h' tk' m', Fr hT L h' m' → Ext hB h' → h'.get? it = some oit → J (i + 1) m' h' → K .next ⟨h', σg, σd, tk', σo⟩) → wpAny (model prog w) A (execs body env) K (fun _ _ => False) ⟨h, σg, σd, tk, σo⟩)
    (done : ∀ m h tk, J n m h → Ext hB h → Fr hT L h m → Q .next ⟨h, σg, σd, tk, σo⟩)
    (hs : ∀ x, foldedSetIterable iter env x = pure x := by intro _; rfl) :
    wpAny (model prog w) A (exec (.For (.Name x px) iter body [] pos) env) Q E ⟨σ, σg, σd, σt, σo⟩ :=
  for_rangeS hB hL hx hp hh J lo n hlo hlo' hn hBL (fun i m h h' j k => hJ i m h h' j k.seqs) hiter (fun i m h tk it oit t a1 a2 a3 a4 a5 a6 => turn i m h tk it oit t a1 a2 a3 a4 a5 (let ⟨_, _, _, e⟩ := a6; ⟨_, e⟩)) done hs

/-- the list that a for begins with -/
def ListAt (hT hB : Heap) (L : Addr) (σg : Array GenState) (σd : Drawn) (σo : OsState) (a : Addr) (n : Nat) (vs : List Value) (J : Nat → (Str → Option Value) → Heap → Prop) (xv : Value) (s₁ : Shared) : Prop :=
  ∃ m h tk, xv = .ref a ∧ s₁ = ⟨h, σg, σd, tk, σo⟩ ∧ h.get? a = some (listOf (List.toArray vs) n) ∧ Fr hT L h m ∧ Ext hB h ∧ J 0 m h
theorem ListAt.intro {hT hB : Heap} {L : Addr} {vs : List Value} {J : Nat → (Str → Option Value) → Heap → Prop} {a : Addr} {n : Nat} {h : Heap} {tk : Nat} {m : Str → Option Value}
    (ha : h.get? a = some (listOf (List.toArray vs) n)) (F : Fr hT L h m) (x : Ext hB h) (j : J 0 m h) : ListAt hT hB L σg σd σo a n vs J (.ref a) ⟨h, σg, σd, tk, σo⟩ :=
  ⟨m, h, tk, rfl, rfl, ha, F, x, j⟩
/-- for target in a list; what the target wants is a premise -/
theorem for_listG (hB : Heap) {target : Expr} {pos : Pos} {iter : Expr} {body : List Stmt} (hh : A.handled = none)
    (J : Nat → (Str → Option Value) → Heap → Prop) (a : Addr) (n : Nat) (vs : List Value) (hBL : hB.get? L = none)
    (hJ : ∀ i m h h', J i m h → Seqs h h' → J i m h')
    (hiter : wpAny (model prog w) A (eval iter env) (ListAt hT hB L σg σd σo a n vs J) (fun _ _ => False) ⟨σ, σg, σd, σt, σo⟩)
    (turn : ∀ i v m h tk it oit, vs[i]? = some v → J i m h → Ext hB h → Fr hT L h m → h.get? it = some oit → (∃ vs, oit.data = .fields vs) → hT.get? it = none → it ≠ L → h.get? a = some (listOf (List.toArray vs) n) →
      ∀ K : Flow → Shared → Prop, (∀ h' tk' m', Fr hT L h' m' → Ext hB h' → h'.get? it = some oit → h'.get? a = some (listOf (List.toArray vs) n) → J (i + 1) m' h' → K .next ⟨h', σg, σd, tk', σo⟩) → wpAny (model prog w) A (assign target env v) (fun _ s₂ => wpAny (model prog w) A (execs body env)
        K (fun _ _ => False) s₂) (fun _ _ => False) ⟨h, σg, σd, tk, σo⟩)
    (done : ∀ m h tk, J vs.length m h → Ext hB h → Fr hT L h m → Q .next ⟨h, σg, σd, tk, σo⟩)
    (hgo : ∀ (I : Addr) (i : Nat) v (s : Shared) (Q : Unit → Shared → Prop) (E : Value → Shared → Prop), vs[i]? = some v → s.heap.IsListIter I a (i + 1) → Q () s → wpAny (model prog w) A (letOwnedTupleGo target (.ref I) v) Q E s)
    (hs : ∀ x, foldedSetIterable iter env x = pure x) :
    wpAny (model prog w) A (exec (.For target iter body [] pos) env) Q E ⟨σ, σg, σd, σt, σo⟩ := by
  refine wpAny_For (wpAny_mono hiter (fun xv s₁ h₁ => ?_) fun _ _ e => e.elim) hs
  obtain ⟨m, h, tk, rfl, rfl, ha, F, eB, j⟩ := h₁
  refine wpAny_pyIter_list (items := List.toArray vs) ⟨_, ha, rfl, n, rfl⟩ ?_
  have hfr := fresh_top F
  have hfB := fresh_ext eB
  have hIL : h.objs.size ≠ L := Nat.ne_of_gt F.ns.lt
  have haI : a ≠ h.objs.size := Nat.ne_of_lt (Heap.lt_size ha)
  have W := Walks.list (prog := prog) (w := w) hh h.objs.size a haI (List.toArray vs)
  rw [List.size_toArray] at W
  refine code_walk (hT := hT) (L := L) (m := m) W (fun i m h => J i m h ∧ Ext hB h ∧ h.get? a = some (listOf (List.toArray vs) n)) ?_ (F.push _) ⟨hJ _ _ _ _ j fun b o _ e => Heap.get?_push_of_some _ e, fun b o e => Heap.get?_push_of_some _ (eB b o e), Heap.get?_push_of_some _ ha⟩ ?_ ?_ ?_ ?_ (fun i v s Q E hv st q => hgo _ i v s Q E (by simpa using hv) st.1 q)
  · exact ⟨⟨_, Heap.get?_push_size _ rfl, rfl, rfl⟩, ⟨_, Heap.get?_push_of_some _ ha, rfl, n, rfl⟩⟩
  · intro b hb
    rw [List.mem_singleton.mp hb]
    exact ⟨hfr, hIL⟩
  · rintro i m' h₁ h₂ ⟨j₁, eB₁, ha₁⟩ ⟨⟨oi, st, _, st2⟩, _⟩ k
    refine ⟨hJ _ _ _ _ j₁ fun b o hd e => k b o (fun q => ?_) e, fun b o e => k b o (fun q => ?_) (eB₁ b o e), k _ _ (fun q => haI (List.mem_singleton.mp q)) ha₁⟩
    · rw [List.mem_singleton.mp q, st] at e; cases e
      obtain ⟨xs, k, hd⟩ := hd
      rw [st2] at hd; cases hd
    · have q' : b = h.objs.size := List.mem_singleton.mp q
      rw [q', hfB] at e; cases e
  · rintro i v m' h₁ tk₁ hi hv ⟨j₁, eB₁, ha₁⟩ F₁ ⟨⟨oi, st, _, st2⟩, _⟩ K hK
    refine turn i v m' h₁ tk₁ h.objs.size oi (by simpa using hv) j₁ eB₁ F₁ st ⟨_, st2⟩ hfr hIL ha₁ K fun h' tk' m'' F' eB' hit ha' j' => hK h' tk' m'' F' (fun b hb o e => ?_) ⟨j', eB', ha'⟩
    rcases (by simpa using hb : b = h.objs.size ∨ b = a) with hq | hq
    · subst hq
      exact hit.trans (st.symm.trans e)
    · subst hq
      exact ha'.trans (ha₁.symm.trans e)
  · rintro m' h₁ tk₁ ⟨j₁, eB₁, _⟩ F₁
    exact done m' h₁ tk₁ j₁ eB₁ F₁
/-- for target in a list -/
theorem for_list (hB : Heap) {target : Expr} {pos : Pos} {iter : Expr} {body : List Stmt} (hh : A.handled = none)
    (J : Nat → (Str → Option Value) → Heap → Prop) (a : Addr) (n : Nat) (vs : List Value) (hBL : hB.get? L = none)
    (hJ : ∀ i m h h', J i m h → Seqs h h' → J i m h')
    (hiter : wpAny (model prog w) A (eval iter env) (ListAt hT hB L σg σd σo a n vs J) (fun _ _ => False) ⟨σ, σg, σd, σt, σo⟩)
    (turn : ∀ i v m h tk it oit, vs[i]? = some v → J i m h → Ext hB h → Fr hT L h m → h.get? it = some oit → (∃ vs, oit.data = .fields vs) → hT.get? it = none → it ≠ L → h.get? a = some (listOf (List.toArray vs) n) →
      ∀ K : Flow → Shared → Prop, (∀ h' tk' m', Fr hT L h' m' → Ext hB h' → h'.get? it = some oit → h'.get? a = some (listOf (List.toArray vs) n) → J (i + 1) m' h' → K .next ⟨h', σg, σd, tk', σo⟩) → wpAny (model prog w) A (assign target env v) (fun _ s₂ => wpAny (model prog w) A (execs body env)
        K (fun _ _ => False) s₂) (fun _ _ => False) ⟨h, σg, σd, tk, σo⟩)
    (done : ∀ m h tk, J vs.length m h → Ext hB h → Fr hT L h m → Q .next ⟨h, σg, σd, tk, σo⟩)
    (hs : ∀ x, foldedSetIterable iter env x = pure x := by intro _; rfl)
    (ht : ∀ I v, letOwnedTupleGo target (.ref I) v = pure () := by intro _ _; rfl) :
    wpAny (model prog w) A (exec (.For target iter body [] pos) env) Q E ⟨σ, σg, σd, σt, σo⟩ :=
  for_listG hB hh J a n vs hBL hJ hiter turn done (fun I i v s Q E _ _ q => by rw [ht]; exact wpAny_pure q) hs
/-- for a, b in a list of tuples -/
theorem for_listT (hB : Heap) {elts : List Expr} {ek : Nat} {pos tpos : Pos} {iter : Expr} {body : List Stmt} (hh : A.handled = none)
    (J : Nat → (Str → Option Value) → Heap → Prop) (a : Addr) (n : Nat) (vs : List Value) (hBL : hB.get? L = none)
    (hJ : ∀ i m h h', J i m h → Seqs h h' → J i m h')
    (hiter : wpAny (model prog w) A (eval iter env) (ListAt hT hB L σg σd σo a n vs J) (fun _ _ => False) ⟨σ, σg, σd, σt, σo⟩)
    (turn : ∀ i v m h tk it oit, vs[i]? = some v → J i m h → Ext hB h → Fr hT L h m → h.get? it = some oit → (∃ vs, oit.data = .fields vs) → hT.get? it = none → it ≠ L → h.get? a = some (listOf (List.toArray vs) n) →
      ∀ K : Flow → Shared → Prop, (∀ h' tk' m', Fr hT L h' m' → Ext hB h' → h'.get? it = some oit → h'.get? a = some (listOf (List.toArray vs) n) → J (i + 1) m' h' → K .next ⟨h', σg, σd, tk', σo⟩) → wpAny (model prog w) A (assign (.Tuple elts ek tpos) env v) (fun _ s₂ => wpAny (model prog w) A (execs body env)
        K (fun _ _ => False) s₂) (fun _ _ => False) ⟨h, σg, σd, tk, σo⟩)
    (done : ∀ m h tk, J vs.length m h → Ext hB h → Fr hT L h m → Q .next ⟨h, σg, σd, tk, σo⟩)
    (hrf : ∀ (i : Nat) v, vs[i]? = some v → ∃ T, v = .ref T)
    (hs : ∀ x, foldedSetIterable iter env x = pure x := by intro _; rfl) :
    wpAny (model prog w) A (exec (.For (.Tuple elts ek tpos) iter body [] pos) env) Q E ⟨σ, σg, σd, σt, σo⟩ :=
  for_listG hB hh J a n vs hBL hJ hiter turn done (fun I i v s Q E hv st q => by
    obtain ⟨T, rfl⟩ := hrf i v hv
    exact wpAny_letOwnedTupleGo_listiter st q) hs

/-- the reversed list that a for begins with -/
def RevAt (hT hB : Heap) (L : Addr) (σg : Array GenState) (σd : Drawn) (σo : OsState) (a : Addr) (n : Nat) (vs : List Value) (J : Nat → (Str → Option Value) → Heap → Prop) (xv : Value) (s₁ : Shared) : Prop :=
  ∃ I m h tk, xv = .ref I ∧ s₁ = ⟨h, σg, σd, tk, σo⟩ ∧ h.get? I = some (revObj a ((vs.length : Int) - 1)) ∧ hT.get? I = none ∧ hB.get? I = none ∧ I ≠ L ∧ h.get? a = some (listOf (List.toArray vs) n) ∧ Fr hT L h m ∧ Ext hB h ∧ J 0 m h
theorem RevAt.intro {hT hB : Heap} {L : Addr} {vs : List Value} {J : Nat → (Str → Option Value) → Heap → Prop} {a I : Addr} {n : Nat} {h : Heap} {tk : Nat} {m : Str → Option Value}
    (hI : h.get? I = some (revObj a ((vs.length : Int) - 1))) (h1 : hT.get? I = none) (h2 : hB.get? I = none) (h3 : I ≠ L) (ha : h.get? a = some (listOf (List.toArray vs) n)) (F : Fr hT L h m) (x : Ext hB h) (j : J 0 m h) : RevAt hT hB L σg σd σo a n vs J (.ref I) ⟨h, σg, σd, tk, σo⟩ :=
  ⟨I, m, h, tk, rfl, rfl, hI, h1, h2, h3, ha, F, x, j⟩
/-- for target in reversed(a list) -/
theorem for_rev (hB : Heap) {target : Expr} {pos : Pos} {iter : Expr} {body : List Stmt} (hh : A.handled = none)
    (J : Nat → (Str → Option Value) → Heap → Prop) (a : Addr) (n : Nat) (vs : List Value) (hBL : hB.get? L = none)
    (hJ : ∀ i m h h', J i m h → Seqs h h' → J i m h')
    (hiter : wpAny (model prog w) A (eval iter env) (RevAt hT hB L σg σd σo a n vs J) (fun _ _ => False) ⟨σ, σg, σd, σt, σo⟩)
    (turn : ∀ i v m h tk it oit, i < vs.length → vs[vs.length - 1 - i]? = some v → J i m h → Ext hB h → Fr hT L h m → h.get? it = some oit → (∃ vs, oit.data = .fields vs) → hT.get? it = none → it ≠ L → h.get? a = some (listOf (List.toArray vs) n) →
      ∀ K : Flow → Shared → Prop, (∀ h' tk' m', Fr hT L h' m' → Ext hB h' → h'.get? it = some oit → h'.get? a = some (listOf (List.toArray vs) n) → J (i + 1) m' h' → K .next ⟨h', σg, σd, tk', σo⟩) → wpAny (model prog w) A (assign target env v) (fun _ s₂ => wpAny (model prog w) A (execs body env)
        K (fun _ _ => False) s₂) (fun _ _ => False) ⟨h, σg, σd, tk, σo⟩)
    (done : ∀ m h tk, J vs.length m h → Ext hB h → Fr hT L h m → Q .next ⟨h, σg, σd, tk, σo⟩)
    (hs : ∀ x, foldedSetIterable iter env x = pure x := by intro _; rfl)
    (ht : ∀ I v, letOwnedTupleGo target (.ref I) v = pure () := by intro _ _; rfl) :
    wpAny (model prog w) A (exec (.For target iter body [] pos) env) Q E ⟨σ, σg, σd, σt, σo⟩ := by
  refine wpAny_For (wpAny_mono hiter (fun xv s₁ h₁ => ?_) fun _ _ e => e.elim) hs
  obtain ⟨I, m, h, tk, rfl, rfl, hI, hfr, hfB, hIL, ha, F, eB, j⟩ := h₁
  refine wpAny_pyIter_revIter (l := a) (i := (vs.length : Int) - 1) ⟨_, hI, rfl, rfl⟩ ?_
  have haI : a ≠ I := fun q => by
    rw [q, hI] at ha
    have e := congrArg Obj.data (Option.some.inj ha)
    cases e
  have W := Walks.listRev (prog := prog) (w := w) hh I a haI (List.toArray vs)
  rw [List.size_toArray] at W
  refine code_walk (hT := hT) (L := L) (m := m) W (fun i m h => J i m h ∧ Ext hB h ∧ h.get? a = some (listOf (List.toArray vs) n)) ?_ F ⟨j, eB, ha⟩ ?_ ?_ ?_ ?_ (fun i v s Q E _ _ q => by rw [ht]; exact wpAny_pure q)
  · refine ⟨Nat.zero_le _, ⟨_, hI, rfl, ?_⟩, ⟨_, ha, rfl, n, rfl⟩⟩
    show Data.fields #[Value.ref a, rawInt ((vs.length : Int) - 1)] = Data.fields #[Value.ref a, rawInt ((vs.length : Int) - 1 - ((0 : Nat) : Int))]
    have e : (vs.length : Int) - 1 - ((0 : Nat) : Int) = (vs.length : Int) - 1 := by omega
    rw [e]
  · intro b hb
    rw [List.mem_singleton.mp hb]
    exact ⟨hfr, hIL⟩
  · rintro i m' h₁ h₂ ⟨j₁, eB₁, ha₁⟩ ⟨_, ⟨oi, st, _, st2⟩, _⟩ k
    refine ⟨hJ _ _ _ _ j₁ fun b o hd e => k b o (fun q => ?_) e, fun b o e => k b o (fun q => ?_) (eB₁ b o e), k _ _ (fun q => haI (List.mem_singleton.mp q)) ha₁⟩
    · rw [List.mem_singleton.mp q, st] at e; cases e
      obtain ⟨xs, k, hd⟩ := hd
      rw [st2] at hd; cases hd
    · have q' : b = I := List.mem_singleton.mp q
      rw [q', hfB] at e; cases e
  · rintro i v m' h₁ tk₁ hi hv ⟨j₁, eB₁, ha₁⟩ F₁ ⟨_, ⟨oi, st, _, st2⟩, _⟩ K hK
    refine turn i v m' h₁ tk₁ I oi hi (by simpa using hv) j₁ eB₁ F₁ st ⟨_, st2⟩ hfr hIL ha₁ K fun h' tk' m'' F' eB' hit ha' j' => hK h' tk' m'' F' (fun b hb o e => ?_) ⟨j', eB', ha'⟩
    rcases (by simpa using hb : b = I ∨ b = a) with hq | hq
    · subst hq
      exact hit.trans (st.symm.trans e)
    · subst hq
      exact ha'.trans (ha₁.symm.trans e)
  · rintro m' h₁ tk₁ ⟨j₁, eB₁, _⟩ F₁
    exact done m' h₁ tk₁ j₁ eB₁ F₁

/-- while test: body -/
theorem while_loop {test : Expr} {body : List Stmt} {pos : Pos} {m : Str → Option Value} (J : Nat → (Str → Option Value) → Heap → Prop)
    (n : Nat) (F : Fr hT L σ m) (h0 : J n m σ)
    (turn : ∀ k m h tk, J k m h → Fr hT L h m → ∀ K : Flow → Shared → Prop, (∀ h' tk' m' k', Fr hT L h' m' → k' < k → J k' m' h' → K .next ⟨h', σg, σd, tk', σo⟩) → wpAny (model prog w) A (isTrue test env (eval test env)) (fun b s₂ => if b = true then
        wpAny (model prog w) A (execs body env) K (fun _ _ => False) s₂
        else Q .next s₂) (fun _ _ => False) ⟨h, σg, σd, tk, σo⟩) :
    wpAny (model prog w) A (exec (.While test body [] pos) env) Q E ⟨σ, σg, σd, σt, σo⟩ := by
  refine wpAny_While ?_
  refine codeAny_whileLoop (fun k s' => ∃ m h tk, s' = ⟨h, σg, σd, tk, σo⟩ ∧ Fr hT L h m ∧ J k m h) ?_ n ⟨m, σ, σt, rfl, F, h0⟩
  rintro k s' ⟨m₁, h₁, tk₁, rfl, F₁, j₁⟩
  refine wpAny_mono (turn k m₁ h₁ tk₁ j₁ F₁ (fun f s₃ => match f with | .next | .cont => ∃ m, m < k ∧ ∃ m_1 h tk, s₃ = ⟨h, σg, σd, tk, σo⟩ ∧ Fr hT L h m_1 ∧ J m m_1 h | .brk => Q .next s₃ | .ret v => Q (.ret v) s₃) ?hK) (fun b s₂ h₂ => ?hB) fun _ _ e => e.elim
  case hB =>
    cases b with
    | false => simp only [Bool.false_eq_true, if_false] at h₂ ⊢; exact wpAny_execs_nil h₂
    | true =>
      simp only [if_true] at h₂ ⊢
      exact wpAny_mono h₂ (fun f s₃ h₃ => by cases f <;> exact h₃) fun _ _ e => e.elim
  case hK =>
    intro h' tk' m' k' F' lt j'
    exact ⟨k', lt, m', h', tk', rfl, F', j'⟩
end
end

section
/-- one rule's pass from the row's left end -/
def mrg (l r s : Int) : List Int → List Int
  | a :: b :: t => if a = l ∧ b = r then s :: mrg l r s t else a :: mrg l r s (b :: t)
  | [a] => [a]
  | [] => []
termination_by xs => xs.length
/-- the row behind the first i rules -/
def Jto (ps : List (Int × Int)) (row : List Int) : Nat → List Int
  | 0 => row
  | i + 1 => mrg (ps.getD i (0, 0)).1 (ps.getD i (0, 0)).2 (256 + i) (Jto ps row i)
def Jn (ps : List (Int × Int)) (row : List Int) : List Int := Jto ps row ps.length
theorem mrg_length (l r s : Int) : ∀ xs : List Int, (mrg l r s xs).length ≤ xs.length
  | a :: b :: t => by
    unfold mrg
    split
    · have := mrg_length l r s t; simp only [List.length_cons]; omega
    · have := mrg_length l r s (b :: t); simp only [List.length_cons] at *; omega
  | [a] => by unfold mrg; exact Nat.le_refl _
  | [] => by unfold mrg; exact Nat.le_refl _
termination_by xs => xs.length
theorem Jto_length (ps : List (Int × Int)) (row : List Int) : ∀ i, (Jto ps row i).length ≤ row.length
  | 0 => Nat.le_refl _
  | i + 1 => Nat.le_trans (mrg_length _ _ _ _) (Jto_length ps row i)
theorem mrg_none (l r s : Int) : ∀ xs : List Int, l ∉ xs → mrg l r s xs = xs
  | a :: b :: t, h => by
    unfold mrg
    rw [if_neg (fun q => h (by rw [← q.1]; exact .head _)), mrg_none l r s (b :: t) (fun q => h (.tail _ q))]
  | [a], h => by unfold mrg; rfl
  | [], h => by unfold mrg; rfl
termination_by xs => xs.length
theorem mrg_yes {l r s : Int} {R : List Int} {a : Nat} (h : (R.drop a).take 2 = [l, r]) : mrg l r s (R.drop a) = s :: mrg l r s (R.drop (a + 2)) ∧ a + 2 ≤ R.length := by
  have hl : ((R.drop a).take 2).length = 2 := by rw [h]; rfl
  rw [List.length_take, List.length_drop] at hl
  refine ⟨?_, by omega⟩
  rw [← List.drop_drop]
  generalize R.drop a = T at *
  match T, h with
  | x :: y :: t, h =>
    simp at h
    rw [mrg.eq_1, if_pos h]
    rfl
theorem mrg_no {l r s : Int} {R : List Int} {a : Nat} (ha : a < R.length) (h : (R.drop a).take 2 ≠ [l, r]) : mrg l r s (R.drop a) = R.getD a 0 :: mrg l r s (R.drop (a + 1)) := by
  have e : R.drop a = R.getD a 0 :: R.drop (a + 1) := by
    rw [List.drop_eq_getElem_cons ha]
    simp [List.getD, ha]
  rw [e] at h ⊢
  generalize R.drop (a + 1) = T at *
  match T, h with
  | [], h => rw [mrg.eq_2, mrg.eq_3]
  | y :: t, h =>
    have h' : ¬ (R.getD a 0 = l ∧ y = r) := fun q => h (by simp only [List.take_succ_cons, List.take_zero]; rw [q.1, q.2])
    rw [mrg.eq_1, if_neg h']
end

section
/-- what a symbol spells -/
def sp (ps : List (Int × Int)) (x : Int) : List Int :=
  if h : x < 256 then [x] else
    if h2 : (ps.getD (x - 256).toNat (0, 0)).1 < x ∧ (ps.getD (x - 256).toNat (0, 0)).2 < x then sp ps (ps.getD (x - 256).toNat (0, 0)).1 ++ sp ps (ps.getD (x - 256).toNat (0, 0)).2 else []
termination_by (x - 255).toNat
decreasing_by all_goals omega
/-- how many turns a symbol costs -/
def wt (ps : List (Int × Int)) (x : Int) : Nat :=
  if h : x < 256 then 1 else
    if h2 : (ps.getD (x - 256).toNat (0, 0)).1 < x ∧ (ps.getD (x - 256).toNat (0, 0)).2 < x then 1 + (wt ps (ps.getD (x - 256).toNat (0, 0)).1 + wt ps (ps.getD (x - 256).toNat (0, 0)).2) else 1
termination_by (x - 255).toNat
decreasing_by all_goals omega
/-- each pair is made of symbols ahead of it -/
def WF (ps : List (Int × Int)) : Prop := ∀ k, k < ps.length → (ps.getD k (0, 0)).1 < 256 + k ∧ (ps.getD k (0, 0)).2 < 256 + k
theorem sp_lt (ps : List (Int × Int)) {x : Int} (h : x < 256) : sp ps x = [x] := by rw [sp, dif_pos h]
theorem wt_lt (ps : List (Int × Int)) {x : Int} (h : x < 256) : wt ps x = 1 := by rw [wt, dif_pos h]
theorem sp_at {ps : List (Int × Int)} (W : WF ps) {k : Nat} (h : k < ps.length) : sp ps (256 + k) = sp ps (ps.getD k (0, 0)).1 ++ sp ps (ps.getD k (0, 0)).2 := by
  have e : ((256 : Int) + k - 256).toNat = k := by omega
  rw [sp, dif_neg (by omega), e, dif_pos (W k h)]
theorem wt_at {ps : List (Int × Int)} (W : WF ps) {k : Nat} (h : k < ps.length) : wt ps (256 + k) = 1 + (wt ps (ps.getD k (0, 0)).1 + wt ps (ps.getD k (0, 0)).2) := by
  have e : ((256 : Int) + k - 256).toNat = k := by omega
  rw [wt, dif_neg (by omega), e, dif_pos (W k h)]
theorem wt_pos (ps : List (Int × Int)) (x : Int) : 1 ≤ wt ps x := by
  rw [wt]; split
  · exact Nat.le_refl _
  · split <;> omega
theorem wt_le (ps : List (Int × Int)) : ∀ (n : Nat) (x : Int), x < 256 + n → wt ps x + 1 ≤ 2 ^ (n + 1)
  | 0, x, h => by rw [wt_lt ps (by omega)]; decide
  | n + 1, x, h => by
    by_cases h1 : x < 256
    · rw [wt_lt ps h1]; have := Nat.one_le_two_pow (n := n); rw [Nat.pow_succ, Nat.pow_succ]; omega
    · rw [wt, dif_neg h1]
      split
      · rename_i h2
        have a := wt_le ps n _ (by omega : (ps.getD (x - 256).toNat (0, 0)).1 < 256 + n)
        have b := wt_le ps n _ (by omega : (ps.getD (x - 256).toNat (0, 0)).2 < 256 + n)
        rw [Nat.pow_succ] at *; omega
      · have := Nat.one_le_two_pow (n := n); rw [Nat.pow_succ, Nat.pow_succ]; omega
theorem sp_len_le (ps : List (Int × Int)) : ∀ (n : Nat) (x : Int), x < 256 + n → (sp ps x).length ≤ 2 ^ n
  | 0, x, h => by rw [sp_lt ps (by omega)]; exact Nat.le_refl _
  | n + 1, x, h => by
    by_cases h1 : x < 256
    · rw [sp_lt ps h1]; exact Nat.one_le_two_pow
    · rw [sp, dif_neg h1]
      split
      · rename_i h2
        have a := sp_len_le ps n _ (by omega : (ps.getD (x - 256).toNat (0, 0)).1 < 256 + n)
        have b := sp_len_le ps n _ (by omega : (ps.getD (x - 256).toNat (0, 0)).2 < 256 + n)
        rw [List.length_append, Nat.pow_succ]; omega
      · exact Nat.zero_le _
/-- what a pile spells, its top last -/
def spl (ps : List (Int × Int)) (pl : List Int) : List Int := pl.reverse.flatMap (sp ps)
def wts (ps : List (Int × Int)) (pl : List Int) : Nat := (pl.map (wt ps)).sum
theorem spl_nil (ps : List (Int × Int)) : spl ps [] = [] := rfl
theorem spl_snoc (ps : List (Int × Int)) (pl : List Int) (x : Int) : spl ps (pl ++ [x]) = sp ps x ++ spl ps pl := by simp [spl]
theorem wts_snoc (ps : List (Int × Int)) (pl : List Int) (x : Int) : wts ps (pl ++ [x]) = wts ps pl + wt ps x := by simp [wts]
theorem len_wts (ps : List (Int × Int)) : ∀ pl : List Int, pl.length ≤ wts ps pl
  | [] => Nat.le_refl _
  | x :: r => by have := len_wts ps r; have := wt_pos ps x; simp only [wts, List.map_cons, List.sum_cons, List.length_cons] at *; omega
/-- the symbols that stand, with what they spell -/
def stand (ps : List (Int × Int)) (syms : List Int) : List (Int × List Int) := syms.filterMap fun x => if Jn ps (sp ps x) = [x] then some (x, sp ps x) else none
theorem stand_snoc (ps : List (Int × Int)) (a : List Int) (x : Int) : stand ps (a ++ [x]) = stand ps a ++ (if Jn ps (sp ps x) = [x] then [(x, sp ps x)] else []) := by
  unfold stand
  rw [List.filterMap_append]
  congr 1
  by_cases h : Jn ps (sp ps x) = [x] <;> simp [h]
theorem stand_len (ps : List (Int × Int)) (a : List Int) : (stand ps a).length ≤ a.length := List.length_filterMap_le ..
end

section
/-- the number of a list of digits, the least first -/
def dval (b : Int) : List Int → Int
  | [] => 0
  | x :: r => x + b * dval b r
theorem dval_append (b : Int) : ∀ a c : List Int, dval b (a ++ c) = dval b a + b ^ a.length * dval b c
  | [], c => by simp [dval]
  | x :: r, c => by
    rw [List.cons_append, dval, dval_append b r c, dval, List.length_cons, Int.pow_succ, Int.mul_add, Int.add_assoc, Int.mul_comm (b ^ r.length) b, Int.mul_assoc]
theorem dval_bound {b : Int} (hb : 0 < b) : ∀ xs : List Int, (∀ x ∈ xs, 0 ≤ x ∧ x < b) → 0 ≤ dval b xs ∧ dval b xs < b ^ xs.length
  | [], _ => by simp [dval]
  | x :: r, h => by
    obtain ⟨h1, h2⟩ := dval_bound hb r fun y hy => h y (.tail _ hy)
    obtain ⟨h3, h4⟩ := h x (.head _)
    rw [dval, List.length_cons, Int.pow_succ]
    have : 0 ≤ b * dval b r := Int.mul_nonneg (Int.le_of_lt hb) h1
    have h5 : b * (dval b r + 1) ≤ b * b ^ r.length := Int.mul_le_mul_of_nonneg_left h2 (Int.le_of_lt hb)
    rw [Int.mul_add, Int.mul_one] at h5
    rw [Int.mul_comm (b ^ r.length) b]
    omega
/-- the part of a list from lo up to hi -/
def seg (xs : List Int) (lo hi : Nat) : List Int := (xs.drop lo).take (hi - lo)
theorem seg_one {xs : List Int} {lo : Nat} (h : lo < xs.length) : seg xs lo (lo + 1) = [xs.getD lo 0] := by
  unfold seg
  have e : lo + 1 - lo = 1 := by omega
  have e2 : xs.getD lo 0 = xs[lo] := by simp [List.getD, h]
  rw [e, e2, List.drop_eq_getElem_cons h, List.take_succ_cons, List.take_zero]
theorem seg_split {xs : List Int} {lo mid hi : Nat} (h1 : lo ≤ mid) (h2 : mid ≤ hi) : seg xs lo hi = seg xs lo mid ++ seg xs mid hi := by
  unfold seg
  have e : hi - lo = (mid - lo) + (hi - mid) := by omega
  rw [e, List.take_add, List.drop_drop]
  congr 3
  omega
theorem seg_length {xs : List Int} {lo hi : Nat} (h1 : lo ≤ hi) (h2 : hi ≤ xs.length) : (seg xs lo hi).length = hi - lo := by
  unfold seg
  rw [List.length_take, List.length_drop]; omega
theorem seg_mem {xs : List Int} {lo hi : Nat} : ∀ x ∈ seg xs lo hi, x ∈ xs := fun x hx => List.mem_of_mem_drop (List.mem_of_mem_take hx)
theorem seg_all (xs : List Int) : seg xs 0 xs.length = xs := by simp [seg]
end

section
/-- k digits of x, the least first -/
def dgs (b : Int) : Nat → Int → List Int
  | 0, _ => []
  | k + 1, x => x % b :: dgs b k (x / b)
theorem dgs_length (b : Int) : ∀ k x, (dgs b k x).length = k
  | 0, _ => rfl
  | k + 1, x => by rw [dgs, List.length_cons, dgs_length b k]
theorem dgs_one {b x : Int} (h0 : 0 ≤ x) (h1 : x < b) : dgs b 1 x = [x] := by
  rw [dgs, dgs, Int.emod_eq_of_lt h0 h1]
theorem dgs_bound {b : Int} (hb : 0 < b) : ∀ k x, ∀ d ∈ dgs b k x, 0 ≤ d ∧ d < b
  | 0, _, d, hd => by cases hd
  | k + 1, x, d, hd => by
    rcases List.mem_cons.mp hd with rfl | hd
    · exact ⟨Int.emod_nonneg _ (Int.ne_of_gt hb), Int.emod_lt_of_pos _ hb⟩
    · exact dgs_bound hb k _ d hd
theorem dval_dgs {b : Int} (hb : 0 < b) : ∀ k x, 0 ≤ x → x < b ^ k → dval b (dgs b k x) = x
  | 0, x, h0, h1 => by simp at h1; simp [dgs, dval]; omega
  | k + 1, x, h0, h1 => by
    have h2 : x / b < b ^ k := by
      rw [Int.pow_succ] at h1
      exact Int.ediv_lt_of_lt_mul hb h1
    rw [dgs, dval, dval_dgs hb k (x / b) (Int.ediv_nonneg h0 (Int.le_of_lt hb)) h2]
    exact Int.emod_add_mul_ediv x b
theorem dgs_split {b : Int} (hb : 0 < b) : ∀ (j k : Nat) (x : Int), dgs b (j + k) x = dgs b j (x % b ^ j) ++ dgs b k (x / b ^ j)
  | 0, k, x => by simp [dgs]
  | j + 1, k, x => by
    have e1 : j + 1 + k = (j + k) + 1 := by omega
    rw [e1, dgs, dgs_split hb j k (x / b), dgs, List.cons_append]
    have e2 : x % b ^ (j + 1) % b = x % b := by
      rw [Int.pow_succ, Int.mul_comm]
      exact Int.emod_emod_of_dvd x (Int.dvd_mul_right b _)
    have e3 : x % b ^ (j + 1) / b = x / b % b ^ j := by
      rw [Int.pow_succ, Int.mul_comm, Int.emod_def, Int.emod_def, Int.sub_eq_add_neg, Int.mul_assoc, ← Int.mul_neg, Int.add_mul_ediv_left _ _ (Int.ne_of_gt hb), Int.ediv_ediv_of_nonneg (Int.le_of_lt hb)]
      rfl
    have e4 : x / b ^ (j + 1) = x / b / b ^ j := by
      rw [Int.pow_succ, Int.mul_comm, Int.ediv_ediv_of_nonneg (Int.le_of_lt hb)]
    rw [e2, e3, e4]
theorem set_mid (ys : List Int) (lo : Nat) (x : Int) (h : lo < ys.length) : ys.set lo x = ys.take lo ++ [x] ++ ys.drop (lo + 1) := by
  rw [List.set_eq_take_append_cons_drop, if_pos h, List.append_assoc]; rfl
theorem mid_take (ys A : List Int) {lo mid : Nat} (h1 : lo ≤ mid) (h2 : mid ≤ ys.length) (hA : A.length = mid - lo) : (ys.take lo ++ A ++ ys.drop mid).take mid = ys.take lo ++ A := by
  have e : (ys.take lo ++ A).length = mid := by rw [List.length_append, List.length_take, hA]; omega
  exact List.take_left' e
theorem mid_drop (ys A : List Int) {lo mid hi : Nat} (h1 : lo ≤ mid) (h2 : mid ≤ ys.length) (h3 : mid ≤ hi) (hA : A.length = mid - lo) : (ys.take lo ++ A ++ ys.drop mid).drop hi = ys.drop hi := by
  have e : (ys.take lo ++ A).length = mid := by rw [List.length_append, List.length_take, hA]; omega
  have e2 : hi = (ys.take lo ++ A).length + (hi - mid) := by omega
  rw [e2, ← List.drop_drop, List.drop_left, List.drop_drop]
  congr 1
  omega
theorem mid_length (ys A : List Int) {lo mid : Nat} (h1 : lo ≤ mid) (h2 : mid ≤ ys.length) (hA : A.length = mid - lo) : (ys.take lo ++ A ++ ys.drop mid).length = ys.length := by
  rw [List.length_append, List.length_append, List.length_take, List.length_drop, hA]; omega
end

section
theorem divstep {A b B d : Int} (hb : 0 < b) (hB : 0 < B) (hd0 : 0 ≤ d) (hd1 : d < B) :
    (d + B * A) / b = (A % b * B + d) / b + B * (A / b) ∧ (d + B * A) % b = (A % b * B + d) % b ∧ 0 ≤ (A % b * B + d) / b ∧ (A % b * B + d) / b < B := by
  have e : d + B * A = (A % b * B + d) + b * (B * (A / b)) := by
    have h := Int.emod_add_mul_ediv A b
    have h2 : B * A = B * (A % b) + B * (b * (A / b)) := by rw [← Int.mul_add, h]
    have h3 : b * (B * (A / b)) = B * (b * (A / b)) := by rw [← Int.mul_assoc, ← Int.mul_assoc, Int.mul_comm b B]
    rw [h2, h3, Int.mul_comm B (A % b)]
    omega
  have hr0 := Int.emod_nonneg A (Int.ne_of_gt hb)
  have hr1 := Int.emod_lt_of_pos A hb
  have hn : 0 ≤ A % b * B + d := Int.add_nonneg (Int.mul_nonneg hr0 (Int.le_of_lt hB)) hd0
  refine ⟨?_, ?_, Int.ediv_nonneg hn (Int.le_of_lt hb), ?_⟩
  · rw [e, Int.add_mul_ediv_left _ _ (Int.ne_of_gt hb)]
  · rw [e, Int.add_mul_emod_self_left]
  · refine Int.ediv_lt_of_lt_mul hb ?_
    have h4 : (A % b + 1) * B ≤ b * B := Int.mul_le_mul_of_nonneg_right (by omega) (Int.le_of_lt hB)
    rw [Int.add_mul, Int.one_mul] at h4
    rw [Int.mul_comm B b]
    omega
theorem drop_last {ds : List Int} {i : Nat} (h : i < ds.length) : ds.drop (ds.length - (i + 1)) = ds.getD (ds.length - 1 - i) 0 :: ds.drop (ds.length - i) := by
  have e : ds.length - (i + 1) = ds.length - 1 - i := by omega
  have e2 : ds.length - 1 - i + 1 = ds.length - i := by omega
  have hl : ds.length - 1 - i < ds.length := by omega
  rw [e, List.drop_eq_getElem_cons hl, e2]
  congr 1
  simp [List.getD, hl]
end

section
theorem mrg_ne (l r s b : Int) (t : List Int) : mrg l r s (b :: t) ≠ [] := by
  match t with
  | [] => unfold mrg; simp
  | c :: t => unfold mrg; split <;> simp
theorem mrg_split {l r s : Int} (hs : s ≠ l) : ∀ (A B : List Int),
    (∃ U B', mrg l r s A = U ++ [l] ∧ B = r :: B' ∧ mrg l r s (A ++ B) = U ++ s :: mrg l r s B') ∨
    ((¬ ∃ U B', mrg l r s A = U ++ [l] ∧ B = r :: B') ∧ mrg l r s (A ++ B) = mrg l r s A ++ mrg l r s B)
  | [], B => by
    right
    have e : mrg l r s [] = [] := by unfold mrg; rfl
    rw [e]
    refine ⟨?_, rfl⟩
    rintro ⟨U, B', h, _⟩
    cases U <;> simp at h
  | [a], B => by
    have e : mrg l r s [a] = [a] := by unfold mrg; rfl
    rw [e]
    match B with
    | [] =>
      right
      have e0 : mrg l r s [] = [] := by unfold mrg; rfl
      refine ⟨?_, ?_⟩
      · rintro ⟨U, B', _, h⟩
        cases h
      show mrg l r s [a] = [a] ++ mrg l r s []
      rw [e, e0]; rfl
    | b :: B' =>
      have e2 : mrg l r s ([a] ++ b :: B') = if a = l ∧ b = r then s :: mrg l r s B' else a :: mrg l r s (b :: B') := by
        show mrg l r s (a :: b :: B') = _
        rw [mrg.eq_1]
      by_cases h : a = l ∧ b = r
      · left
        rw [e2, if_pos h]
        exact ⟨[], B', by rw [h.1]; rfl, by rw [h.2], rfl⟩
      · right
        rw [e2, if_neg h]
        refine ⟨?_, rfl⟩
        rintro ⟨U, B'', h1, h2⟩
        cases h2
        cases U with
        | nil => simp at h1; exact h ⟨h1, rfl⟩
        | cons u U => simp at h1
  | a :: b :: t, B => by
    have e : mrg l r s (a :: b :: t) = if a = l ∧ b = r then s :: mrg l r s t else a :: mrg l r s (b :: t) := by rw [mrg.eq_1]
    have e2 : mrg l r s ((a :: b :: t) ++ B) = if a = l ∧ b = r then s :: mrg l r s (t ++ B) else a :: mrg l r s ((b :: t) ++ B) := by
      show mrg l r s (a :: b :: (t ++ B)) = _
      rw [mrg.eq_1]; rfl
    by_cases h : a = l ∧ b = r
    · rw [e, e2, if_pos h, if_pos h]
      rcases mrg_split hs t B with ⟨U, B', h1, h2, h3⟩ | ⟨h1, h2⟩
      · left
        exact ⟨s :: U, B', by rw [h1]; rfl, h2, by rw [h3]; rfl⟩
      · right
        refine ⟨?_, by rw [h2]; rfl⟩
        rintro ⟨U, B', h3, h4⟩
        cases U with
        | nil => simp at h3; exact hs h3.1
        | cons u U =>
          simp at h3
          exact h1 ⟨U, B', h3.2, h4⟩
    · rw [e, e2, if_neg h, if_neg h]
      rcases mrg_split hs (b :: t) B with ⟨U, B', h1, h2, h3⟩ | ⟨h1, h2⟩
      · left
        exact ⟨a :: U, B', by rw [h1]; rfl, h2, by rw [h3]; rfl⟩
      · right
        refine ⟨?_, by rw [h2]; rfl⟩
        rintro ⟨U, B', h3, h4⟩
        cases U with
        | nil => simp at h3; exact mrg_ne _ _ _ _ _ h3.2
        | cons u U =>
          simp at h3
          exact h1 ⟨U, B', h3.2, h4⟩
termination_by A => A.length
/-- how far a row spells -/
def wd (ps : List (Int × Int)) (R : List Int) : Nat := (R.map fun x => (sp ps x).length).sum
theorem wd_cons (ps : List (Int × Int)) (x : Int) (R : List Int) : wd ps (x :: R) = (sp ps x).length + wd ps R := by simp [wd]
theorem wd_append (ps : List (Int × Int)) (R S : List Int) : wd ps (R ++ S) = wd ps R + wd ps S := by simp [wd]
theorem wd_nil (ps : List (Int × Int)) : wd ps [] = 0 := rfl
/-- no end of a symbol at n -/
def noB (ps : List (Int × Int)) : Nat → List Int → Prop
  | _, [] => False
  | n, x :: R => (0 < n ∧ n < (sp ps x).length) ∨ ((sp ps x).length < n ∧ noB ps (n - (sp ps x).length) R)
theorem noB_intro (ps : List (Int × Int)) {d : Nat} {x : Int} (h0 : 0 < d) (h1 : d < (sp ps x).length) : ∀ (U V : List Int), noB ps (wd ps U + d) (U ++ x :: V)
  | [], V => .inl (by rw [wd_nil]; omega)
  | u :: U, V => .inr ⟨by rw [wd_cons]; omega, by
    have e : wd ps (u :: U) + d - (sp ps u).length = wd ps U + d := by rw [wd_cons]; omega
    rw [e]; exact noB_intro ps h0 h1 U V⟩
theorem noB_not (ps : List (Int × Int)) : ∀ (T S : List Int), ¬ noB ps (wd ps T) (T ++ S)
  | [], S => by
    cases S with
    | nil => exact id
    | cons x S => rintro (h | h) <;> (rw [wd_nil] at h; omega)
  | x :: T, S => by
    rintro (h | h)
    · rw [wd_cons] at h; omega
    · have e : wd ps (x :: T) - (sp ps x).length = wd ps T := by rw [wd_cons]; omega
      rw [e] at h
      exact noB_not ps T S h.2
theorem noB_mrg (ps : List (Int × Int)) {l r s : Int} (hs : (sp ps s).length = (sp ps l).length + (sp ps r).length) : ∀ (n : Nat) (R : List Int), noB ps n R → noB ps n (mrg l r s R)
  | n, [], h => h.elim
  | n, [a], h => by
    have e : mrg l r s [a] = [a] := by unfold mrg; rfl
    rw [e]; exact h
  | n, a :: b :: t, h => by
    rw [mrg.eq_1]
    split
    · rename_i q
      obtain ⟨rfl, rfl⟩ := q
      rcases h with h | ⟨h1, h | ⟨h2, h⟩⟩
      · exact .inl (by omega)
      · exact .inl (by omega)
      · refine .inr ⟨by omega, ?_⟩
        have e : n - (sp ps s).length = n - (sp ps a).length - (sp ps b).length := by omega
        rw [e]
        exact noB_mrg ps hs _ t h
    · rcases h with h | ⟨h1, h⟩
      · exact .inl h
      · exact .inr ⟨h1, noB_mrg ps hs _ (b :: t) h⟩
termination_by n R => R.length
theorem spell_mrg (ps : List (Int × Int)) {l r s : Int} (hs : sp ps s = sp ps l ++ sp ps r) : ∀ R : List Int, (mrg l r s R).flatMap (sp ps) = R.flatMap (sp ps)
  | [] => by unfold mrg; rfl
  | [a] => by unfold mrg; rfl
  | a :: b :: t => by
    rw [mrg.eq_1]
    split
    · rename_i q
      obtain ⟨rfl, rfl⟩ := q
      rw [List.flatMap_cons, spell_mrg ps hs t, hs, List.flatMap_cons, List.flatMap_cons, List.append_assoc]
    · rw [List.flatMap_cons, spell_mrg ps hs (b :: t)]; rfl
termination_by R => R.length
theorem wd_spell (ps : List (Int × Int)) (R : List Int) : (R.flatMap (sp ps)).length = wd ps R := by
  simp [wd, List.length_flatMap]
theorem mrg_mem {l r s x : Int} : ∀ R : List Int, x ∈ mrg l r s R → x ∈ R ∨ x = s
  | [], h => by unfold mrg at h; cases h
  | [a], h => by unfold mrg at h; exact .inl h
  | a :: b :: t, h => by
    rw [mrg.eq_1] at h
    split at h
    · rcases List.mem_cons.mp h with h | h
      · exact .inr h
      · rcases mrg_mem t h with h | h
        · exact .inl (.tail _ (.tail _ h))
        · exact .inr h
    · rcases List.mem_cons.mp h with h | h
      · exact .inl (by rw [h]; exact .head _)
      · rcases mrg_mem (b :: t) h with h | h
        · exact .inl (.tail _ h)
        · exact .inr h
termination_by R => R.length
end

section
section
variable {ps : List (Int × Int)}
/-- a symbol that stands for something -/
def Vd (ps : List (Int × Int)) (x : Int) : Prop := x < 256 + (ps.length : Int)
theorem sp_step (W : WF ps) {x : Int} (h : Vd ps x) (h1 : ¬ x < 256) : ∃ k, k < ps.length ∧ x = 256 + (k : Int) := by
  refine ⟨(x - 256).toNat, ?_, ?_⟩ <;> (unfold Vd at h; omega)
theorem sp_pos (W : WF ps) : ∀ (n : Nat) (x : Int), x < 256 + (n : Int) → Vd ps x → 0 < (sp ps x).length
  | 0, x, h, _ => by rw [sp_lt ps (by omega)]; exact Nat.zero_lt_one
  | n + 1, x, h, v => by
    by_cases h1 : x < 256
    · rw [sp_lt ps h1]; exact Nat.zero_lt_one
    · obtain ⟨k, hk, rfl⟩ := sp_step W v h1
      rw [sp_at W hk, List.length_append]
      have h2 := (W k hk).1
      have := sp_pos W n (ps.getD k (0, 0)).1 (by omega) (by unfold Vd; omega)
      omega
theorem sp_oct (W : WF ps) : ∀ (n : Nat) (x : Int), x < 256 + (n : Int) → Vd ps x → ∀ o ∈ sp ps x, o < 256
  | 0, x, h, _ => by intro o ho; rw [sp_lt ps (by omega)] at ho; rw [List.mem_singleton.mp ho]; omega
  | n + 1, x, h, v => by
    intro o ho
    by_cases h1 : x < 256
    · rw [sp_lt ps h1] at ho; rw [List.mem_singleton.mp ho]; exact h1
    · obtain ⟨k, hk, rfl⟩ := sp_step W v h1
      rw [sp_at W hk] at ho
      have h2 := (W k hk)
      rcases List.mem_append.mp ho with ho | ho
      · exact sp_oct W n _ (by omega) (by unfold Vd; omega) o ho
      · exact sp_oct W n _ (by omega) (by unfold Vd; omega) o ho
theorem sp_pos' (W : WF ps) {x : Int} (v : Vd ps x) : 0 < (sp ps x).length := sp_pos W ps.length x v v
theorem sp_oct' (W : WF ps) {x : Int} (v : Vd ps x) : ∀ o ∈ sp ps x, o < 256 := sp_oct W ps.length x v v
def Oct (R : List Int) : Prop := ∀ o ∈ R, o < 256
theorem Oct.spell {R : List Int} (h : Oct R) : R.flatMap (sp ps) = R := by
  induction R with
  | nil => rfl
  | cons x R ih =>
    rw [List.flatMap_cons, sp_lt ps (h x (.head _)), ih (fun o ho => h o (.tail _ ho))]; rfl
theorem Oct.wd {R : List Int} (h : Oct R) : wd ps R = R.length := by rw [← wd_spell, h.spell]
theorem Oct.append {A B : List Int} (h : Oct A) (k : Oct B) : Oct (A ++ B) := fun o ho => (List.mem_append.mp ho).elim (h o) (k o)
theorem Jto_spell (W : WF ps) (R : List Int) : ∀ k, k ≤ ps.length → (Jto ps R k).flatMap (sp ps) = R.flatMap (sp ps)
  | 0, _ => rfl
  | k + 1, h => by
    rw [Jto, spell_mrg ps (sp_at W h), Jto_spell W R k (by omega)]
theorem Jto_wd (W : WF ps) (R : List Int) (k : Nat) (h : k ≤ ps.length) : wd ps (Jto ps R k) = wd ps R := by
  rw [← wd_spell, Jto_spell W R k h, wd_spell]
theorem Jto_mem {R : List Int} {x : Int} : ∀ k, x ∈ Jto ps R k → x ∈ R ∨ (256 ≤ x ∧ x < 256 + (k : Int))
  | 0, h => .inl h
  | k + 1, h => by
    rcases mrg_mem _ h with h | h
    · rcases Jto_mem k h with h | h
      · exact .inl h
      · exact .inr ⟨h.1, by omega⟩
    · exact .inr ⟨by omega, by omega⟩
theorem Jn_vd {R : List Int} (h : Oct R) {x : Int} (hx : x ∈ Jn ps R) : Vd ps x := by
  rcases Jto_mem _ hx with q | q
  · have := h x q; unfold Vd; omega
  · exact q.2
theorem Jto_nil : ∀ k, Jto ps [] k = []
  | 0 => rfl
  | k + 1 => by rw [Jto, Jto_nil k]; unfold mrg; rfl
theorem Jto_ne {R : List Int} (h : R ≠ []) : ∀ k, Jto ps R k ≠ []
  | 0 => h
  | k + 1 => by
    rw [Jto]
    have := Jto_ne h k
    generalize Jto ps R k = S at *
    cases S with
    | nil => exact absurd rfl this
    | cons b t => exact mrg_ne _ _ _ _ _
/-- no symbol comes to lie over the boundary, in the first n rules -/
def FreeTo (ps : List (Int × Int)) (A B : List Int) (n : Nat) : Prop := ∀ k, k < n → ¬ ∃ U B', Jto ps A (k + 1) = U ++ [(ps.getD k (0, 0)).1] ∧ Jto ps B k = (ps.getD k (0, 0)).2 :: B'
theorem Jto_split (W : WF ps) {A B : List Int} : ∀ n, n ≤ ps.length → FreeTo ps A B n → Jto ps (A ++ B) n = Jto ps A n ++ Jto ps B n
  | 0, _, _ => rfl
  | n + 1, h, f => by
    have ih := Jto_split W n (by omega) (fun k hk => f k (by omega))
    have hs : (256 : Int) + n ≠ (ps.getD n (0, 0)).1 := by have := (W n h).1; omega
    rw [Jto, ih]
    rcases mrg_split (r := (ps.getD n (0, 0)).2) hs (Jto ps A n) (Jto ps B n) with ⟨U, B', h1, h2, h3⟩ | ⟨h1, h2⟩
    · exact absurd ⟨U, B', h1, h2⟩ (f n (by omega))
    · exact h2
theorem noB_Jto (W : WF ps) {R : List Int} {x k : Nat} (h : noB ps x (Jto ps R k)) : ∀ j, k + j ≤ ps.length → noB ps x (Jto ps R (k + j))
  | 0, _ => h
  | j + 1, hj => by
    have ih := noB_Jto W h j (by omega)
    have e : k + (j + 1) = k + j + 1 := by omega
    rw [e, Jto]
    exact noB_mrg ps (by rw [sp_at W (by omega : k + j < ps.length), List.length_append]) _ _ ih
theorem free_of (W : WF ps) {A B T1 T2 : List Int} (hJ : Jn ps (A ++ B) = T1 ++ T2) (hw : wd ps T1 = wd ps A)
    (hp : ∀ k, k < ps.length → 0 < (sp ps (ps.getD k (0, 0)).1).length ∧ 0 < (sp ps (ps.getD k (0, 0)).2).length) : ∀ n, n ≤ ps.length → FreeTo ps A B n
  | 0, _ => fun k hk => by omega
  | n + 1, h => by
    have ih := free_of W hJ hw hp n (by omega)
    intro k hk
    by_cases q : k < n
    · exact ih k q
    · have e : k = n := by omega
      subst e
      rintro ⟨U, B', h1, h2⟩
      have hs : (256 : Int) + k ≠ (ps.getD k (0, 0)).1 := by have := (W k h).1; omega
      have hsp := Jto_split W k (by omega) ih
      have hR : Jto ps (A ++ B) (k + 1) = U ++ (256 + (k : Int)) :: mrg (ps.getD k (0, 0)).1 (ps.getD k (0, 0)).2 (256 + k) B' := by
        rw [Jto, hsp]
        rcases mrg_split (r := (ps.getD k (0, 0)).2) hs (Jto ps A k) (Jto ps B k) with ⟨U', B'', h3, h4, h5⟩ | ⟨h3, h4⟩
        · have e1 : U' = U := by
            have : U' ++ [(ps.getD k (0, 0)).1] = U ++ [(ps.getD k (0, 0)).1] := h3.symm.trans h1
            exact List.append_cancel_right this
          have e2 : B'' = B' := by rw [h2] at h4; cases h4; rfl
          rw [h5, e1, e2]
        · exact absurd ⟨U, B', h1, h2⟩ h3
      have hwA : wd ps A = wd ps U + (sp ps (ps.getD k (0, 0)).1).length := by
        rw [← Jto_wd W A (k + 1) h, h1, wd_append, wd_cons, wd_nil]
        omega
      have hn : noB ps (wd ps A) (Jto ps (A ++ B) (k + 1)) := by
        rw [hR, hwA]
        refine noB_intro ps (hp k h).1 ?_ _ _
        rw [sp_at W h, List.length_append]
        have := (hp k h).2
        omega
      obtain ⟨j, hj⟩ : ∃ j, k + 1 + j = ps.length := ⟨ps.length - (k + 1), by omega⟩
      have hn2 := noB_Jto W hn j (by omega)
      rw [hj] at hn2
      have hJ' : Jto ps (A ++ B) ps.length = T1 ++ T2 := hJ
      rw [hJ', ← hw] at hn2
      exact noB_not ps T1 T2 hn2
theorem pre_eq {T1 T2 S1 S2 : List Int} (h : T1 ++ T2 = S1 ++ S2) (hw : wd ps T1 = wd ps S1) (hp : ∀ x ∈ T1 ++ T2, 0 < (sp ps x).length) : T1 = S1 ∧ T2 = S2 := by
  have z : ∀ a : List Int, wd ps a = 0 → (∀ x ∈ a, 0 < (sp ps x).length) → a = [] := by
    intro a ha hx
    cases a with
    | nil => rfl
    | cons x a => rw [wd_cons] at ha; have := hx x (.head _); omega
  rcases List.append_eq_append_iff.mp h with ⟨a, h1, h2⟩ | ⟨a, h1, h2⟩
  · have : a = [] := z a (by rw [h1, wd_append] at hw; omega) (fun x hx => hp x (by rw [h2]; simp [hx]))
    subst this
    simp at h1 h2
    exact ⟨h1.symm, h2⟩
  · have : a = [] := z a (by rw [h1, wd_append] at hw; omega) (fun x hx => hp x (by rw [h1]; simp [hx]))
    subst this
    simp at h1 h2
    exact ⟨h1, h2.symm⟩
theorem pair_pos (W : WF ps) : ∀ k, k < ps.length → 0 < (sp ps (ps.getD k (0, 0)).1).length ∧ 0 < (sp ps (ps.getD k (0, 0)).2).length := fun k hk =>
  ⟨sp_pos' W (by have := (W k hk).1; unfold Vd; omega), sp_pos' W (by have := (W k hk).2; unfold Vd; omega)⟩
theorem cut_at (W : WF ps) {A B T1 T2 : List Int} (oA : Oct A) (oB : Oct B) (hJ : Jn ps (A ++ B) = T1 ++ T2) (hw : wd ps T1 = A.length) : FreeTo ps A B ps.length ∧ Jn ps A = T1 ∧ Jn ps B = T2 := by
  have hw' : wd ps T1 = wd ps A := by rw [hw, oA.wd]
  have f := free_of W hJ hw' (pair_pos W) ps.length (Nat.le_refl _)
  have h := Jto_split W ps.length (Nat.le_refl _) f
  have hJ' : Jto ps (A ++ B) ps.length = T1 ++ T2 := hJ
  rw [hJ'] at h
  obtain ⟨e1, e2⟩ := pre_eq (ps := ps) h (by rw [Jto_wd W A _ (Nat.le_refl _), hw']) (fun x hx => sp_pos' W (Jn_vd (oA.append oB) (by show x ∈ Jto ps (A ++ B) ps.length; rw [hJ']; exact hx)))
  exact ⟨f, e1.symm, e2.symm⟩
theorem free_last (W : WF ps) {A' Xr B : List Int} (hX : Xr ≠ []) (f : FreeTo ps A' Xr ps.length) : FreeTo ps (A' ++ Xr) B ps.length ↔ FreeTo ps Xr B ps.length := by
  have key : ∀ k, k < ps.length → ∀ y : Int, (∃ U, Jto ps (A' ++ Xr) (k + 1) = U ++ [y]) ↔ ∃ U, Jto ps Xr (k + 1) = U ++ [y] := by
    intro k hk y
    have hs := Jto_split W (k + 1) hk (fun j hj => f j (by omega))
    rw [hs]
    have hne := Jto_ne (ps := ps) hX (k + 1)
    generalize Jto ps Xr (k + 1) = S at *
    obtain ⟨S', z, rfl⟩ : ∃ S' z, S = S' ++ [z] := ⟨S.dropLast, S.getLast hne, (List.dropLast_concat_getLast hne).symm⟩
    constructor
    · rintro ⟨U, h⟩
      rw [← List.append_assoc] at h
      have := List.append_inj' h rfl
      exact ⟨S', by rw [this.2]⟩
    · rintro ⟨U, h⟩
      have := List.append_inj' h rfl
      exact ⟨Jto ps A' (k + 1) ++ S', by rw [this.2, List.append_assoc]⟩
  constructor
  · rintro h k hk ⟨U, B', h1, h2⟩
    obtain ⟨V, h3⟩ := (key k hk _).mpr ⟨U, h1⟩
    exact h k hk ⟨V, B', h3, h2⟩
  · rintro h k hk ⟨U, B', h1, h2⟩
    obtain ⟨V, h3⟩ := (key k hk _).mp ⟨U, h1⟩
    exact h k hk ⟨V, B', h3, h2⟩
theorem Jn_row (W : WF ps) {R : List Int} (o : Oct R) : (Jn ps R).flatMap (sp ps) = R := by
  rw [Jn, Jto_spell W R _ (Nat.le_refl _), o.spell]
/-- the last symbol of a joined row -/
theorem last_ok (W : WF ps) {row T' : List Int} {z : Int} (o : Oct row) (hJ : Jn ps row = T' ++ [z]) :
    row = T'.flatMap (sp ps) ++ sp ps z ∧ Jn ps (T'.flatMap (sp ps)) = T' ∧ Jn ps (sp ps z) = [z] ∧ ∀ T'' t, T' = T'' ++ [t] → Jn ps (sp ps t ++ sp ps z) = [t, z] := by
  have hr := Jn_row W o
  rw [hJ, List.flatMap_append] at hr
  have hz : [z].flatMap (sp ps) = sp ps z := by simp
  rw [hz] at hr
  have vz : ∀ x ∈ T' ++ [z], Vd ps x := fun x hx => Jn_vd o (by rw [hJ]; exact hx)
  have oA : Oct (T'.flatMap (sp ps)) := fun q hq => o q (by rw [← hr]; exact List.mem_append_left _ hq)
  have oB : Oct (sp ps z) := fun q hq => o q (by rw [← hr]; exact List.mem_append_right _ hq)
  have hJ2 : Jn ps (T'.flatMap (sp ps) ++ sp ps z) = T' ++ [z] := by rw [hr]; exact hJ
  obtain ⟨f, e1, e2⟩ := cut_at W oA oB hJ2 (wd_spell ps T').symm
  refine ⟨hr.symm, e1, e2, ?_⟩
  rintro T'' t rfl
  have vt : Vd ps t := vz t (by simp)
  have h3 : (T'' ++ [t]).flatMap (sp ps) = T''.flatMap (sp ps) ++ sp ps t := by simp
  rw [h3] at e1 f oA
  have o1 : Oct (T''.flatMap (sp ps)) := fun q hq => oA q (List.mem_append_left _ hq)
  have o2 : Oct (sp ps t) := fun q hq => oA q (List.mem_append_right _ hq)
  obtain ⟨f2, e3, e4⟩ := cut_at W o1 o2 e1 (wd_spell ps T'').symm
  have hne : sp ps t ≠ [] := fun q => by have := sp_pos' W vt; rw [q] at this; cases this
  have f3 := (free_last W hne f2).mp f
  have h5 := Jto_split W ps.length (Nat.le_refl _) f3
  show Jto ps _ _ = _
  rw [h5]
  have e4' : Jto ps (sp ps t) ps.length = [t] := e4
  have e2' : Jto ps (sp ps z) ps.length = [z] := e2
  rw [e4', e2']
  rfl
/-- a standing symbol that fits behind what stands ahead ends the joined row -/
theorem last_only (W : WF ps) {A : List Int} {y : Int} (o : Oct A) (vy : Vd ps y) (hy : Jn ps (sp ps y) = [y]) (hc : A = [] ∨ ∃ T'' t, Jn ps A = T'' ++ [t] ∧ Jn ps (sp ps t ++ sp ps y) = [t, y]) : Jn ps (A ++ sp ps y) = Jn ps A ++ [y] := by
  rcases hc with rfl | ⟨T'', t, h1, h2⟩
  · rw [List.nil_append, hy]
    show [y] = Jto ps [] ps.length ++ [y]
    rw [Jto_nil]; rfl
  · have hr := Jn_row W o
    rw [h1, List.flatMap_append] at hr
    have hz : [t].flatMap (sp ps) = sp ps t := by simp
    rw [hz] at hr
    have vt : Vd ps t := Jn_vd o (by rw [h1]; simp)
    have o1 : Oct (T''.flatMap (sp ps)) := fun q hq => o q (by rw [← hr]; exact List.mem_append_left _ hq)
    have o2 : Oct (sp ps t) := sp_oct' W vt
    have o3 : Oct (sp ps y) := sp_oct' W vy
    have h1' : Jn ps (T''.flatMap (sp ps) ++ sp ps t) = T'' ++ [t] := by rw [hr]; exact h1
    obtain ⟨f2, e3, e4⟩ := cut_at W o1 o2 h1' (wd_spell ps T'').symm
    have hne : sp ps t ≠ [] := fun q => by have := sp_pos' W vt; rw [q] at this; cases this
    obtain ⟨f3, _, _⟩ := cut_at W (T1 := [t]) (T2 := [y]) o2 o3 h2 (by rw [wd_cons, wd_nil]; omega)
    have f := (free_last W hne f2).mpr f3
    rw [hr] at f
    have h5 := Jto_split W ps.length (Nat.le_refl _) f
    have hy' : Jto ps (sp ps y) ps.length = [y] := hy
    rw [hy'] at h5
    exact h5
end
end

section
section
variable {ps : List (Int × Int)} {word : List Int}
/-- what a joined row is packed to -/
def Pk (ps : List (Int × Int)) (R : List Int) : Int := dval 512 (Jn ps R).reverse
/-- what the last symbol of a joined row spells -/
def Bf (ps : List (Int × Int)) (R : List Int) : List Int := match (Jn ps R).getLast? with
  | none => []
  | some t => sp ps t
/-- what is told behind c turns -/
def tld (ps : List (Int × Int)) (word : List Int) (c : Nat) : List (Int × List Int) := (List.range (c + 1)).map fun b => (Pk ps (word.take b), Bf ps (word.take b))
/-- what one standing symbol adds -/
def sel (ps : List (Int × Int)) (word : List Int) (c : Nat) (e : Int × List Int) : Option (Int × List Int) :=
  if e.2.length ≤ c ∧ (word.take c).drop (c - e.2.length) = e.2 ∧ (Bf ps (word.take (c - e.2.length)) = [] ∨ Jn ps (Bf ps (word.take (c - e.2.length)) ++ e.2) = [Pk ps (word.take (c - e.2.length)) % 512, e.1])
  then some (Pk ps (word.take (c - e.2.length)) * 512 + e.1, e.2) else none
theorem Jn_nil : Jn ps [] = [] := Jto_nil _
theorem Pk_snoc {R T' : List Int} {z : Int} (h : Jn ps R = T' ++ [z]) : Pk ps R = z + 512 * dval 512 T'.reverse := by
  unfold Pk; rw [h, List.reverse_append]; rfl
theorem Bf_snoc {R T' : List Int} {z : Int} (h : Jn ps R = T' ++ [z]) : Bf ps R = sp ps z := by
  unfold Bf; rw [h]; simp
theorem Bf_nil {R : List Int} (h : Jn ps R = []) : Bf ps R = [] := by unfold Bf; rw [h]; rfl
theorem snoc_of {T : List Int} (h : T ≠ []) : ∃ T' z, T = T' ++ [z] := ⟨T.dropLast, T.getLast h, (List.dropLast_concat_getLast h).symm⟩
theorem Pk_mod {R T' : List Int} {z : Int} (h : Jn ps R = T' ++ [z]) (h0 : 0 ≤ z) (h1 : z < 512) : Pk ps R % 512 = z := by
  rw [Pk_snoc h]; omega
theorem sel_last (W : WF ps) (o : Oct word) (hpos : ∀ x ∈ word, 0 ≤ x) (hl : ps.length ≤ 8) {c : Nat} (hc : c ≤ word.length) {T' : List Int} {z : Int} (hJ : Jn ps (word.take c) = T' ++ [z]) :
    Jn ps (sp ps z) = [z] ∧ sel ps word c (z, sp ps z) = some (Pk ps (word.take c), Bf ps (word.take c)) ∧
    ∀ y, Vd ps y → Jn ps (sp ps y) = [y] → y ≠ z → sel ps word c (y, sp ps y) = none := by
  have oc : Oct (word.take c) := fun q hq => o q (List.mem_of_mem_take hq)
  have bnd : ∀ b, ∀ x ∈ Jn ps (word.take b), 0 ≤ x ∧ x < 512 := by
    intro b x hx
    rcases Jto_mem _ hx with q | q
    · exact ⟨hpos x (List.mem_of_mem_take q), by have := o x (List.mem_of_mem_take q); omega⟩
    · exact ⟨by omega, by omega⟩
  obtain ⟨hr, e1, e2, e3⟩ := last_ok W oc hJ
  refine ⟨e2, ?_, ?_⟩
  · have hlen : (word.take c).length = c := by rw [List.length_take]; omega
    have hl2 : (T'.flatMap (sp ps)).length + (sp ps z).length = c := by rw [← hlen, ← List.length_append, ← hr]
    have hb : c - (sp ps z).length = (T'.flatMap (sp ps)).length := by omega
    have htk : word.take (c - (sp ps z).length) = T'.flatMap (sp ps) := by
      have h1 : word.take (c - (sp ps z).length) = (word.take c).take (c - (sp ps z).length) := by
        rw [List.take_take]; congr 1; omega
      rw [h1, hb, hr]
      exact List.take_left' rfl
    have hdr : (word.take c).drop (c - (sp ps z).length) = sp ps z := by
      rw [hb, hr]
      exact List.drop_left' rfl
    unfold sel
    rw [if_pos]
    · show some (Pk ps (word.take (c - (sp ps z).length)) * 512 + z, sp ps z) = _
      rw [htk, Pk_snoc hJ, Bf_snoc hJ]
      have : Pk ps (T'.flatMap (sp ps)) = dval 512 T'.reverse := by unfold Pk; rw [e1]
      rw [this]
      congr 2
      omega
    · refine ⟨by show (sp ps z).length ≤ c; omega, hdr, ?_⟩
      show Bf ps (word.take (c - (sp ps z).length)) = [] ∨ _
      by_cases hT : T' = []
      · left
        rw [htk]
        exact Bf_nil (by rw [e1, hT])
      · right
        obtain ⟨T'', t, ht⟩ := snoc_of hT
        have hb1 : Jn ps (word.take (c - (sp ps z).length)) = T'' ++ [t] := by rw [htk, e1, ht]
        have hbt := bnd (c - (sp ps z).length) t (by rw [hb1]; simp)
        show Jn ps (Bf ps (word.take (c - (sp ps z).length)) ++ sp ps z) = [Pk ps (word.take (c - (sp ps z).length)) % 512, z]
        rw [Bf_snoc hb1, Pk_mod hb1 hbt.1 hbt.2]
        exact e3 T'' t ht
  · intro y vy hy hne
    unfold sel
    rw [if_neg]
    rintro ⟨h1, h2, h3⟩
    have h1' : (sp ps y).length ≤ c := h1
    have h2' : (word.take c).drop (c - (sp ps y).length) = sp ps y := h2
    have h3' : Bf ps (word.take (c - (sp ps y).length)) = [] ∨ Jn ps (Bf ps (word.take (c - (sp ps y).length)) ++ sp ps y) = [Pk ps (word.take (c - (sp ps y).length)) % 512, y] := h3
    have hrow : word.take c = word.take (c - (sp ps y).length) ++ sp ps y := by
      have h4 := List.take_append_drop (c - (sp ps y).length) (word.take c)
      rw [h2', List.take_take] at h4
      rw [← h4]
      congr 2
      omega
    have oA : Oct (word.take (c - (sp ps y).length)) := fun q hq => o q (List.mem_of_mem_take hq)
    have hcond : word.take (c - (sp ps y).length) = [] ∨ ∃ T'' t, Jn ps (word.take (c - (sp ps y).length)) = T'' ++ [t] ∧ Jn ps (sp ps t ++ sp ps y) = [t, y] := by
      by_cases hA : word.take (c - (sp ps y).length) = []
      · exact .inl hA
      · right
        obtain ⟨T'', t, ht⟩ := snoc_of (Jto_ne (ps := ps) hA ps.length)
        have ht' : Jn ps (word.take (c - (sp ps y).length)) = T'' ++ [t] := ht
        refine ⟨T'', t, ht', ?_⟩
        have vt : Vd ps t := Jn_vd oA (by rw [ht']; simp)
        have hbt := bnd (c - (sp ps y).length) t (by rw [ht']; simp)
        rcases h3' with h3' | h3'
        · rw [Bf_snoc ht'] at h3'
          have := sp_pos' W vt
          rw [h3'] at this; cases this
        · rw [Bf_snoc ht', Pk_mod ht' hbt.1 hbt.2] at h3'
          exact h3'
    have h5 := last_only W oA vy hy hcond
    rw [← hrow, hJ] at h5
    have := List.append_inj' h5 rfl
    have h6 := this.2
    simp at h6
    exact hne h6.symm
theorem filterMap_one {f : Int × List Int → Option (Int × List Int)} {z : Int} {v : Int × List Int} : ∀ (l : List (Int × List Int)), (l.map (·.1)).Nodup → (∀ p ∈ l, p.1 = z → f p = some v) → (∀ p ∈ l, p.1 ≠ z → f p = none) → (∃ p ∈ l, p.1 = z) → l.filterMap f = [v]
  | [], _, _, _, h => by obtain ⟨p, hp, _⟩ := h; cases hp
  | q :: l, nd, h1, h2, h3 => by
    rw [List.map_cons, List.nodup_cons] at nd
    by_cases hq : q.1 = z
    · rw [List.filterMap_cons_some (h1 q (.head _) hq)]
      congr 1
      apply List.filterMap_eq_nil_iff.mpr
      intro p hp
      exact h2 p (.tail _ hp) (fun e => nd.1 (by rw [hq, ← e]; exact List.mem_map_of_mem hp))
    · rw [List.filterMap_cons_none (h2 q (.head _) hq)]
      refine filterMap_one l nd.2 (fun p hp => h1 p (.tail _ hp)) (fun p hp => h2 p (.tail _ hp)) ?_
      obtain ⟨p, hp, e⟩ := h3
      rcases List.mem_cons.mp hp with rfl | hp
      · exact absurd e hq
      · exact ⟨p, hp, e⟩
end
end

section
section
variable {ps : List (Int × Int)} {word : List Int}
theorem stand_fst (ps : List (Int × Int)) : ∀ syms : List Int, (stand ps syms).map (·.1) = syms.filter (fun x => decide (Jn ps (sp ps x) = [x]))
  | [] => rfl
  | x :: r => by
    have ih := stand_fst ps r
    unfold stand at *
    by_cases h : Jn ps (sp ps x) = [x]
    · rw [List.filterMap_cons_some (by rw [if_pos h]), List.filter_cons_of_pos (by simp [h]), List.map_cons, ih]
    · rw [List.filterMap_cons_none (by rw [if_neg h]), List.filter_cons_of_neg (by simp [h]), ih]
theorem stand_mem {syms : List Int} {p : Int × List Int} (h : p ∈ stand ps syms) : p.1 ∈ syms ∧ Jn ps (sp ps p.1) = [p.1] ∧ p = (p.1, sp ps p.1) := by
  unfold stand at h
  obtain ⟨x, hx, e⟩ := List.mem_filterMap.mp h
  split at e
  · rename_i q
    cases e
    exact ⟨hx, q, rfl⟩
  · cases e
theorem stand_in {syms : List Int} {x : Int} (hx : x ∈ syms) (h : Jn ps (sp ps x) = [x]) : (x, sp ps x) ∈ stand ps syms :=
  List.mem_filterMap.mpr ⟨x, hx, by rw [if_pos h]⟩
theorem here_one (W : WF ps) (o : Oct word) (hpos : ∀ x ∈ word, 0 ≤ x) (hl : ps.length ≤ 8) {syms : List Int} (hnd : syms.Nodup) (hv : ∀ x ∈ syms, Vd ps x) (hin : ∀ x, (x ∈ word ∨ (256 ≤ x ∧ x < 256 + (ps.length : Int))) → x ∈ syms)
    {c : Nat} (h0 : 0 < c) (hc : c ≤ word.length) : (stand ps syms).filterMap (sel ps word c) = [(Pk ps (word.take c), Bf ps (word.take c))] := by
  have hne : word.take c ≠ [] := fun q => by
    have := congrArg List.length q
    rw [List.length_take, List.length_nil] at this
    omega
  obtain ⟨T', z, hJ⟩ := snoc_of (Jto_ne (ps := ps) hne ps.length)
  have hJ' : Jn ps (word.take c) = T' ++ [z] := hJ
  obtain ⟨h1, h2, h3⟩ := sel_last W o hpos hl hc hJ'
  have hz : z ∈ syms := by
    have hm : z ∈ Jto ps (word.take c) ps.length := by rw [hJ]; simp
    rcases Jto_mem _ hm with q | q
    · exact hin z (.inl (List.mem_of_mem_take q))
    · exact hin z (.inr q)
  refine filterMap_one (z := z) _ ?_ ?_ ?_ ⟨_, stand_in hz h1, rfl⟩
  · rw [stand_fst]; exact hnd.filter _
  · intro p hp hpz
    obtain ⟨a, b, e⟩ := stand_mem hp
    rw [e, hpz]; exact h2
  · intro p hp hpz
    obtain ⟨a, b, e⟩ := stand_mem hp
    rw [e]; exact h3 _ (hv _ a) b hpz
/-- a packed row and its marks -/
theorem marks_ok {J : List Int} (h0 : J ≠ []) (hb : ∀ x ∈ J, 0 < x ∧ x < 512) : dgs 512 (J.length + 1) (dval 512 J.reverse * 512) = 0 :: J.reverse ∧ (512 : Int) ^ J.length ≤ dval 512 J.reverse * 512 ∧ dval 512 J.reverse * 512 < 512 ^ (J.length + 1) := by
  have hb' : ∀ x ∈ J.reverse, 0 ≤ x ∧ x < 512 := fun x hx => ⟨Int.le_of_lt (hb x (List.mem_reverse.mp hx)).1, (hb x (List.mem_reverse.mp hx)).2⟩
  obtain ⟨d0, d1⟩ := dval_bound (b := 512) (by decide) J.reverse hb'
  rw [List.length_reverse] at d1
  have dg : ∀ l : List Int, (∀ x ∈ l, 0 ≤ x ∧ x < 512) → dgs 512 l.length (dval 512 l) = l := by
    intro l
    induction l with
    | nil => intro _; rfl
    | cons x l ih =>
      intro hx
      have h1 := hx x (.head _)
      show (x + 512 * dval 512 l) % 512 :: dgs 512 l.length ((x + 512 * dval 512 l) / 512) = x :: l
      have e1 : (x + 512 * dval 512 l) % 512 = x := by omega
      have e2 : (x + 512 * dval 512 l) / 512 = dval 512 l := by omega
      rw [e1, e2, ih (fun y hy => hx y (.tail _ hy))]
  refine ⟨?_, ?_, ?_⟩
  · show (dval 512 J.reverse * 512) % 512 :: dgs 512 J.length ((dval 512 J.reverse * 512) / 512) = _
    have e1 : (dval 512 J.reverse * 512) % 512 = 0 := by omega
    have e2 : (dval 512 J.reverse * 512) / 512 = dval 512 J.reverse := by omega
    have := dg J.reverse hb'
    rw [List.length_reverse] at this
    rw [e1, e2, this]
  · obtain ⟨x, J', rfl⟩ : ∃ x J', J = x :: J' := by
      cases J with
      | nil => exact absurd rfl h0
      | cons x J' => exact ⟨x, J', rfl⟩
    have hx := hb x (.head _)
    obtain ⟨e0, _⟩ := dval_bound (b := 512) (by decide) J'.reverse (fun y hy => ⟨Int.le_of_lt (hb y (.tail _ (List.mem_reverse.mp hy))).1, (hb y (.tail _ (List.mem_reverse.mp hy))).2⟩)
    rw [List.reverse_cons, dval_append, List.length_reverse, List.length_cons, Int.pow_succ]
    have hp : (0 : Int) < 512 ^ J'.length := Int.pow_pos (by decide)
    have h2 : dval 512 [x] = x := by simp [dval]
    rw [h2]
    have h3 : (512 : Int) ^ J'.length * 1 ≤ 512 ^ J'.length * x := Int.mul_le_mul_of_nonneg_left (by omega) (Int.le_of_lt hp)
    omega
  · rw [Int.pow_succ]
    omega
end
end

section
theorem dgs_dval {b : Int} (hb : 0 < b) : ∀ l : List Int, (∀ x ∈ l, 0 ≤ x ∧ x < b) → dgs b l.length (dval b l) = l
  | [], _ => rfl
  | x :: l, hx => by
    have h1 := hx x (.head _)
    show (x + b * dval b l) % b :: dgs b l.length ((x + b * dval b l) / b) = x :: l
    have e1 : (x + b * dval b l) % b = x := by rw [Int.add_mul_emod_self_left]; exact Int.emod_eq_of_lt h1.1 h1.2
    have e2 : (x + b * dval b l) / b = dval b l := by rw [Int.add_mul_ediv_left _ _ (Int.ne_of_gt hb), Int.ediv_eq_zero_of_lt h1.1 h1.2, Int.zero_add]
    rw [e1, e2, dgs_dval hb l (fun y hy => hx y (.tail _ hy))]
theorem dgs_zero (b : Int) : ∀ k, dgs b k 0 = List.replicate k 0
  | 0 => rfl
  | k + 1 => by rw [dgs, Int.zero_emod, Int.zero_ediv, dgs_zero b k]; rfl
theorem pow_le_of {b : Int} (hb : 1 < b) {i j : Nat} (h : i ≤ j) : b ^ i ≤ b ^ j := by
  obtain ⟨d, rfl⟩ : ∃ d, j = i + d := ⟨j - i, by omega⟩
  rw [Int.pow_add]
  have h3 : (0 : Int) < b ^ i := Int.pow_pos (by omega)
  have h4 : (0 : Int) < b ^ d := Int.pow_pos (by omega)
  have h5 : b ^ i * 1 ≤ b ^ i * b ^ d := Int.mul_le_mul_of_nonneg_left (by omega) (Int.le_of_lt h3)
  omega
theorem emod_le_of {a p : Int} (h0 : 0 ≤ a) (hp : 0 < p) : a % p ≤ a := by
  have h1 := Int.emod_add_mul_ediv a p
  have h2 : 0 ≤ p * (a / p) := Int.mul_nonneg (Int.le_of_lt hp) (Int.ediv_nonneg h0 (Int.le_of_lt hp))
  omega
theorem pow_lt_of {b : Int} (hb : 1 < b) {i j : Nat} (h : b ^ i < b ^ j) : i < j := by
  apply Decidable.byContradiction
  intro q
  have h1 : j ≤ i := by omega
  have h2 : b ^ j ≤ b ^ i := pow_le_of hb h1
  omega
/-- the letters of a number, highest first, none ahead that is A -/
def ApP (N : Int) (ks : List Int) : Prop := ∃ j : Nat, N < 16 ^ j ∧ (∀ i, j = i + 1 → 16 ^ i ≤ N) ∧ ks = ((dgs 16 j N).map (65 + ·)).reverse
theorem parts {fg : List Int} (hx : ∀ x ∈ fg, 0 ≤ x ∧ x < 16) {c : Nat} (hc : c ≤ fg.length) :
    dval 16 fg.reverse / 16 ^ (fg.length - c) = dval 16 (fg.take c).reverse ∧ dval 16 fg.reverse % 16 ^ (fg.length - c) = dval 16 (fg.drop c).reverse := by
  have e : fg.reverse = (fg.drop c).reverse ++ (fg.take c).reverse := by rw [← List.reverse_append, List.take_append_drop]
  have hl : (fg.drop c).reverse.length = fg.length - c := by rw [List.length_reverse, List.length_drop]
  have hb := dval_bound (b := 16) (by decide) (fg.drop c).reverse (fun x h => hx x (List.mem_of_mem_drop (List.mem_reverse.mp h)))
  rw [hl] at hb
  have hp : (0 : Int) < 16 ^ (fg.length - c) := Int.pow_pos (by decide)
  rw [e, dval_append, hl]
  constructor
  · rw [Int.add_mul_ediv_left _ _ (Int.ne_of_gt hp), Int.ediv_eq_zero_of_lt hb.1 hb.2, Int.zero_add]
  · rw [Int.add_mul_emod_self_left]
    exact Int.emod_eq_of_lt hb.1 hb.2
theorem front_ok {fg : List Int} (hx : ∀ x ∈ fg, 0 ≤ x ∧ x < 16) {hi : Int} {r : List Int} (hf : fg = hi :: r) (h1 : 1 ≤ hi) {c : Nat} (h0 : 0 < c) (hc : c ≤ fg.length) {ks : List Int}
    (h : ApP (dval 16 fg.reverse / 16 ^ (fg.length - c)) ks) : ks = (fg.map (fun k => 65 + k)).take c := by
  rw [(parts hx hc).1] at h
  obtain ⟨j, h2, h3, h4⟩ := h
  have hl : (fg.take c).reverse.length = c := by rw [List.length_reverse, List.length_take]; omega
  have hxs : ∀ x ∈ (fg.take c).reverse, 0 ≤ x ∧ x < 16 := fun x h => hx x (List.mem_of_mem_take (List.mem_reverse.mp h))
  have hb := dval_bound (b := 16) (by decide) _ hxs
  rw [hl] at hb
  obtain ⟨c', rfl⟩ : ∃ c', c = c' + 1 := ⟨c - 1, by omega⟩
  have hlow : (16 : Int) ^ c' ≤ dval 16 (fg.take (c' + 1)).reverse := by
    have hlr : (r.take c').reverse.length = c' := by
      rw [List.length_reverse, List.length_take]
      have : fg.length = r.length + 1 := by rw [hf]; rfl
      omega
    rw [hf, List.take_succ_cons, List.reverse_cons, dval_append, hlr]
    have hb2 := dval_bound (b := 16) (by decide) (r.take c').reverse (fun x h => hx x (by rw [hf]; exact .tail _ (List.mem_of_mem_take (List.mem_reverse.mp h))))
    have e : dval 16 [hi] = hi := by simp [dval]
    rw [e]
    have hp : (0 : Int) < 16 ^ c' := Int.pow_pos (by decide)
    have h5 : (16 : Int) ^ c' * 1 ≤ 16 ^ c' * hi := Int.mul_le_mul_of_nonneg_left h1 (Int.le_of_lt hp)
    omega
  have ej : j = c' + 1 := by
    have a1 : c' < j := pow_lt_of (b := 16) (by decide) (Int.lt_of_le_of_lt hlow h2)
    obtain ⟨i, rfl⟩ : ∃ i, j = i + 1 := ⟨j - 1, by omega⟩
    have a2 : i < c' + 1 := pow_lt_of (b := 16) (by decide) (Int.lt_of_le_of_lt (h3 i rfl) hb.2)
    omega
  subst ej
  have hd := dgs_dval (b := 16) (by decide) _ hxs
  rw [hl] at hd
  rw [h4, hd, List.map_reverse, List.reverse_reverse, List.map_take]
theorem behind_ok {fg : List Int} (hx : ∀ x ∈ fg, 0 ≤ x ∧ x < 16) {c : Nat} (hc : c ≤ fg.length) {ks : List Int}
    (h : ApP (dval 16 fg.reverse % 16 ^ (fg.length - c)) ks) : ks.length ≤ fg.length - c ∧ List.replicate (fg.length - c - ks.length) 65 ++ ks = (fg.map (fun k => 65 + k)).drop c := by
  rw [(parts hx hc).2] at h
  obtain ⟨j, h2, h3, h4⟩ := h
  have hl : (fg.drop c).reverse.length = fg.length - c := by rw [List.length_reverse, List.length_drop]
  have hxs : ∀ x ∈ (fg.drop c).reverse, 0 ≤ x ∧ x < 16 := fun x h => hx x (List.mem_of_mem_drop (List.mem_reverse.mp h))
  have hb := dval_bound (b := 16) (by decide) _ hxs
  rw [hl] at hb
  have hd := dgs_dval (b := 16) (by decide) _ hxs
  rw [hl] at hd
  have hkl : ks.length = j := by rw [h4, List.length_reverse, List.length_map, dgs_length]
  have hj : j ≤ fg.length - c := by
    cases j with
    | zero => omega
    | succ i => exact pow_lt_of (b := 16) (by decide) (Int.lt_of_le_of_lt (h3 i rfl) hb.2)
  rw [hkl]
  refine ⟨hj, ?_⟩
  have e : fg.length - c = j + (fg.length - c - j) := by omega
  rw [e, dgs_split (by decide), Int.emod_eq_of_lt hb.1 h2, Int.ediv_eq_zero_of_lt hb.1 h2, dgs_zero] at hd
  have hd2 := congrArg (fun l => (l.reverse).map (fun k : Int => 65 + k)) hd
  rw [List.reverse_reverse, List.map_drop] at hd2
  rw [← hd2, List.reverse_append, List.map_append, List.reverse_replicate, List.map_replicate, h4, List.map_reverse]
  rfl
end

section
section
variable {prog : Program} {w : World} {A : Around} {σ : Heap} {σg : Array GenState} {σd : Drawn} {σt : Nat} {σo : OsState} {Q E : Value → Shared → Prop}
theorem len_any {l : Addr} {vs : List Value} {k : Nat} (hl : σ.IsList l vs.toArray) (hk : vs.length = k) (hz : k < 2 ^ 62) (h : ∀ t tk, Q (.int k t) ⟨σ, σg, σd, tk, σo⟩) :
    wpAny (model prog w) A (call (.builtin "len") [.ref l]) Q E ⟨σ, σg, σd, σt, σo⟩ :=
  call_len_list hl (by rw [List.size_toArray, hk]; omega) (by rw [List.size_toArray, hk]; exact h _ _)

variable {h₀ : Heap} {L : Addr} {m : Str → Option Value} {news : List (Addr × Obj)}
theorem clip_le {n k : Nat} (h : k ≤ n) : clipAt n (k : Int) = k := by
  unfold clipAt
  rw [if_neg (Int.not_lt.mpr (Int.natCast_nonneg k)), Int.min_eq_left (Int.ofNat_le.mpr h), Int.max_eq_right (Int.natCast_nonneg k), Int.toNat_natCast]
theorem clip_ge {n k : Nat} (h : n ≤ k) : clipAt n (k : Int) = n := by
  unfold clipAt
  rw [if_neg (Int.not_lt.mpr (Int.natCast_nonneg k)), Int.min_eq_right (Int.ofNat_le.mpr h), Int.max_eq_right (Int.natCast_nonneg n), Int.toNat_natCast]
theorem toNat_sub2 (a b c : Nat) : ((a : Int) - b - c).toNat = a - b - c := by
  rw [Int.sub_sub, ← Int.natCast_add, Int.toNat_sub, Nat.sub_sub]
theorem pick_lohi {vs : List Value} {ns : List Int} (hi : IntsAre vs ns) {x y : Int} (h0 : 0 ≤ x) (h1 : x ≤ y) (h2 : x ≤ ns.length) :
    IntsAre (slicePick vs.toArray (some x) (some y) none).toList ((ns.drop x.toNat).take (y - x).toNat) := by
  obtain ⟨a, rfl⟩ := Int.eq_ofNat_of_zero_le h0
  obtain ⟨b, rfl⟩ := Int.eq_ofNat_of_zero_le (Int.le_trans h0 h1)
  have h1' := Int.ofNat_le.mp h1
  have h2' := Int.ofNat_le.mp h2
  have e := slice_ints_plain hi (a : Int) (b : Int)
  rw [clip_le h2'] at e
  rw [Int.toNat_natCast, Int.toNat_sub]
  rcases Nat.le_total b ns.length with hb | hb
  · rw [clip_le hb] at e; exact e
  · rw [clip_ge hb] at e
    rw [List.take_of_length_le (by rw [List.length_drop]; exact Nat.sub_le_sub_right hb a)]
    rw [List.take_of_length_le (by rw [List.length_drop]; exact Nat.le_refl _)] at e
    exact e
theorem size_vs {vs : List Value} {ns : List Int} (hi : IntsAre vs ns) (hz : ns.length ≤ 100000) : vs.toArray.size ≤ sizeLine := by
  rw [sizeLine_eq, List.size_toArray, hi.length]; omega
theorem slice_lohi {value slice : Expr} {l : Addr} {vs : List Value} {ns : List Int} {x y : Int} {u v : Tok} (F : Fr h₀ L σ m) (N : News h₀ L σ news) (hl : σ.IsList l vs.toArray) (hi : IntsAre vs ns)
    (h0 : 0 ≤ x) (h1 : x ≤ y) (h2 : x ≤ ns.length) (hz : ns.length ≤ 100000)
    (h : ∀ D ws h', Fr h₀ L h' m → News h₀ L h' ((D, listOf (List.toArray ws) 0) :: news) → (∀ p ∈ news, p.1 < D) → IntsAre ws ((ns.drop x.toNat).take (y - x).toNat) → Q (.ref D) ⟨h', σg, σd, σt, σo⟩)
    (hs : subscripted slice false (.ref l) (.ref σ.objs.size) = operate [.ref σ.objs.size, .ref l] (getItem (.ref l) (.ref σ.objs.size)) := by with_unfolding_all rfl)
    (ht : ∀ r, letTemporaryGo value (.ref l) r = pure () := by intro _; with_unfolding_all rfl) :
    wpAny (model prog w) A (subscriptTail value slice (.ref l) (.ref σ.objs.size)) Q E ⟨σ.push { cls := .type "slice", data := .fields #[.int x u, .int y v, .none] }, σg, σd, σt, σo⟩ :=
  kmk_slice_ints (s := ⟨σ, σg, σd, σt, σo⟩) F N hl (.int _ _) (.int _ _) hi (pick_lohi hi h0 h1 h2) rfl (fun D ws h' F' N' l i _ _ => h D ws h' F' N' l i) hs ht (size_vs hi hz)
theorem slice_to {value slice : Expr} {l : Addr} {vs : List Value} {ns : List Int} {y : Int} {v : Tok} (F : Fr h₀ L σ m) (N : News h₀ L σ news) (hl : σ.IsList l vs.toArray) (hi : IntsAre vs ns)
    (h1 : 0 ≤ y) (hz : ns.length ≤ 100000)
    (h : ∀ D ws h', Fr h₀ L h' m → News h₀ L h' ((D, listOf (List.toArray ws) 0) :: news) → (∀ p ∈ news, p.1 < D) → IntsAre ws (ns.take y.toNat) → Q (.ref D) ⟨h', σg, σd, σt, σo⟩)
    (hs : subscripted slice false (.ref l) (.ref σ.objs.size) = operate [.ref σ.objs.size, .ref l] (getItem (.ref l) (.ref σ.objs.size)) := by with_unfolding_all rfl)
    (ht : ∀ r, letTemporaryGo value (.ref l) r = pure () := by intro _; with_unfolding_all rfl) :
    wpAny (model prog w) A (subscriptTail value slice (.ref l) (.ref σ.objs.size)) Q E ⟨σ.push { cls := .type "slice", data := .fields #[.none, .int y v, .none] }, σg, σd, σt, σo⟩ :=
  kmk_slice_ints (s := ⟨σ, σg, σd, σt, σo⟩) F N hl .none (.int _ _) hi (slice_ints_uptoW hi h1) rfl (fun D ws h' F' N' l i _ _ => h D ws h' F' N' l i) hs ht (size_vs hi hz)
theorem slice_from {value slice : Expr} {l : Addr} {vs : List Value} {ns : List Int} {x : Int} {v : Tok} (F : Fr h₀ L σ m) (N : News h₀ L σ news) (hl : σ.IsList l vs.toArray) (hi : IntsAre vs ns)
    (h1 : 0 ≤ x) (hz : ns.length ≤ 100000)
    (h : ∀ D ws h', Fr h₀ L h' m → News h₀ L h' ((D, listOf (List.toArray ws) 0) :: news) → (∀ p ∈ news, p.1 < D) → IntsAre ws (ns.drop x.toNat) → Q (.ref D) ⟨h', σg, σd, σt, σo⟩)
    (hs : subscripted slice false (.ref l) (.ref σ.objs.size) = operate [.ref σ.objs.size, .ref l] (getItem (.ref l) (.ref σ.objs.size)) := by with_unfolding_all rfl)
    (ht : ∀ r, letTemporaryGo value (.ref l) r = pure () := by intro _; with_unfolding_all rfl) :
    wpAny (model prog w) A (subscriptTail value slice (.ref l) (.ref σ.objs.size)) Q E ⟨σ.push { cls := .type "slice", data := .fields #[.int x v, .none, .none] }, σg, σd, σt, σo⟩ :=
  kmk_slice_ints (s := ⟨σ, σg, σd, σt, σo⟩) F N hl (.int _ _) .none hi (slice_ints_fromW hi h1) rfl (fun D ws h' F' N' l i _ _ => h D ws h' F' N' l i) hs ht (size_vs hi hz)
theorem slice_rev {value slice : Expr} {l : Addr} {vs : List Value} {ns : List Int} {v : Tok} {ops : List Value} (F : Fr h₀ L σ m) (N : News h₀ L σ news) (hl : σ.IsList l vs.toArray) (hi : IntsAre vs ns)
    (hz : ns.length ≤ 100000)
    (h : ∀ D ws h', Fr h₀ L h' m → News h₀ L h' ((D, listOf (List.toArray ws) 0) :: news) → (∀ p ∈ news, p.1 < D) → IntsAre ws ns.reverse → Q (.ref D) ⟨h', σg, σd, σt, σo⟩)
    (hs : subscripted slice false (.ref l) (.ref σ.objs.size) = operate ops (getItem (.ref l) (.ref σ.objs.size)) := by with_unfolding_all rfl)
    (ht : ∀ r, letTemporaryGo value (.ref l) r = pure () := by intro _; with_unfolding_all rfl) :
    wpAny (model prog w) A (subscriptTail value slice (.ref l) (.ref σ.objs.size)) Q E ⟨σ.push { cls := .type "slice", data := .fields #[.none, .none, .int (-1) v] }, σg, σd, σt, σo⟩ :=
  krv_ints (s := ⟨σ, σg, σd, σt, σo⟩) F N hl (.int _ _) hi (fun D ws h' F' N' l i _ => h D ws h' F' N' l i) hs ht (size_vs hi hz)

/-- an append to a list on the ledger -/
theorem append_G {D : Addr} {us : List Value} {n : Nat} {x : Value} {news : List (Addr × Obj)} (F : Fr h₀ L σ m) (N : News h₀ L σ ((D, listOf (List.toArray us) n) :: news)) (hne : ∀ p ∈ news, p.1 ≠ D) (hz : us.length ≤ 100000)
    (h : ∀ h', Fr h₀ L h' m → News h₀ L h' ((D, listOf (List.toArray (us ++ [x])) (n + 1)) :: news) → Q .none ⟨h', σg, σd, σt, σo⟩) :
    wpAny (model prog w) A (call (.builtin "list.append") [.ref D, x]) Q E ⟨σ, σg, σd, σt, σo⟩ :=
  append_K F N (.head hne) (fun h' F' N' => h h' F' (by rw [List.push_toArray] at N'; exact N')) (by rw [sizeLine_eq, List.size_toArray]; omega)
theorem foldl_rep (v : Value) : ∀ (n : Nat) (acc : Array Value), List.foldl (fun x1 x2 => x1 ++ x2) acc (List.replicate n #[v]) = acc ++ List.toArray (List.replicate n v)
  | 0, acc => by simp
  | n + 1, acc => by
    rw [List.replicate_succ, List.foldl_cons, foldl_rep v n, List.replicate_succ]
    apply Array.toList_inj.mp
    simp
/-- [v] * x -/
theorem mul_single {l : Addr} {v : Value} {k : Nat} {x : Int} {u : Tok} (F : Fr h₀ L σ m) (N : News h₀ L σ news) (hl : σ.get? l = some (listOf #[v] k)) (h0 : -1000 ≤ x) (hx : x ≤ 100000)
    (h : ∀ D h', Fr h₀ L h' m → News h₀ L h' ((D, listOf (List.toArray (List.replicate x.toNat v)) 0) :: news) → (∀ p ∈ news, p.1 < D) → Q (.ref D) ⟨h', σg, σd, σt, σo⟩) :
    wpAny (model prog w) A (binaryOp .Mult (.ref l) (.int x u)) Q E ⟨σ, σg, σd, σt, σo⟩ := by
  refine mul_list F N hl (by omega) (by omega) (by show 1 * x.toNat ≤ 2 ^ 24; omega) fun h' F' N' => ?_
  refine h _ h' F' ?_ fun p hp => Heap.lt_size (N p hp).1
  have e : List.foldl (fun x1 x2 => x1 ++ x2) #[] (List.replicate (if (#[v] : Array Value).isEmpty = true then 0 else x.toNat) #[v]) = List.toArray (List.replicate x.toNat v) := by
    rw [if_neg (by simp), foldl_rep]
    simp
  rw [e] at N'
  exact N'
/-- a pop off a list of ints on the ledger -/
theorem pop_U {D : Addr} {us : List Value} {n : Nat} {xs : List Int} {x : Int} {news news' : List (Addr × Obj)} (F : Fr h₀ L σ m) (N : News h₀ L σ news) (i : IntsAre us (xs ++ [x]))
    (U : Upd D (listOf (List.toArray us) n) (listOf (List.toArray us.dropLast) (n + 1)) news news') (hz : us.length ≤ 100000)
    (h : ∀ h' t, Fr h₀ L h' m → News h₀ L h' news' → IntsAre us.dropLast xs → Q (.int x t) ⟨h', σg, σd, σt, σo⟩) :
    wpAny (model prog w) A (call (.builtin "list.pop") [.ref D]) Q E ⟨σ, σg, σd, σt, σo⟩ := by
  refine kpa_pop F N U i (by rw [i.length]; simp) (by rw [sizeLine_eq]; omega) fun h' t F' N' i' => ?_
  rw [List.dropLast_concat] at i'
  have := h h' t F' N' i'
  simpa using this
/-- an append to a list on the ledger -/
theorem append_U {D : Addr} {us : List Value} {n : Nat} {x : Value} {news news' : List (Addr × Obj)} (F : Fr h₀ L σ m) (N : News h₀ L σ news)
    (U : Upd D (listOf (List.toArray us) n) (listOf (List.toArray (us ++ [x])) (n + 1)) news news') (hz : us.length ≤ 100000)
    (h : ∀ h', Fr h₀ L h' m → News h₀ L h' news' → Q .none ⟨h', σg, σd, σt, σo⟩) :
    wpAny (model prog w) A (call (.builtin "list.append") [.ref D, x]) Q E ⟨σ, σg, σd, σt, σo⟩ := by
  refine append_K F N (by rw [List.push_toArray]; exact U) h (by rw [sizeLine_eq, List.size_toArray]; omega)
/-- an append to a list on the ledger; what lies in G stays -/
theorem append_at {D : Addr} {us : List Value} {n : Nat} {x : Value} {news G : List (Addr × Obj)} (F : Fr h₀ L σ m) (N : News h₀ L σ news) (hne : ∀ p ∈ G, p.1 ≠ D) (hm : (D, listOf (List.toArray us) n) ∈ news) (hs : ∀ p ∈ G, p ∈ news) (hz : us.length ≤ 100000)
    (h : ∀ h', Fr h₀ L h' m → News h₀ L h' ((D, listOf (List.toArray (us ++ [x])) (n + 1)) :: G) → Q .none ⟨h', σg, σd, σt, σo⟩) :
    wpAny (model prog w) A (call (.builtin "list.append") [.ref D, x]) Q E ⟨σ, σg, σd, σt, σo⟩ :=
  append_G F (fun p hp => by
    rcases List.mem_cons.mp hp with rfl | hp
    · exact N _ hm
    · exact N _ (hs _ hp)) hne hz h
end

theorem IntsAre_rep (x : Int) (t : Tok) : ∀ n : Nat, IntsAre (List.replicate n (.int x t)) (List.replicate n x)
  | 0 => .nil
  | n + 1 => .cons _ _ (IntsAre_rep x t n)
theorem IntsAre_snoc {us : List Value} {xs : List Int} (i : IntsAre us xs) (x : Int) (t : Tok) : IntsAre (us ++ [.int x t]) (xs ++ [x]) := i.append (.cons _ _ .nil)
theorem News_cons {hT h : Heap} {L D : Addr} {o : Obj} {G : List (Addr × Obj)} (N : News hT L h G) (h1 : h.get? D = some o) (h2 : D ≠ L) (h3 : hT.get? D = none) : News hT L h ((D, o) :: G) := fun p hp => by
  rcases List.mem_cons.mp hp with rfl | hp
  · exact ⟨h1, h2, h3⟩
  · exact N p hp

/-- the pairs, as the run has made them -/
def PairsAt (hT h : Heap) (a : Addr) (ps : List (Int × Int)) : Prop :=
  hT.get? a = none ∧ ∃ vs n, h.get? a = some (listOf (List.toArray vs) n) ∧ vs.length = ps.length ∧ ∀ i, i < ps.length → ∃ b, vs[i]? = some (.ref b) ∧ LI hT h b [(ps.getD i (0, 0)).1, (ps.getD i (0, 0)).2]
theorem PairsAt.seqs {hT h h' : Heap} {a : Addr} {ps : List (Int × Int)} (x : PairsAt hT h a ps) (k : Seqs h h') : PairsAt hT h' a ps :=
  let ⟨t, vs, n, g, hl, hi⟩ := x
  ⟨t, vs, n, k _ _ ⟨_, _, rfl⟩ g, hl, fun i lt => let ⟨b, hb, li⟩ := hi i lt; ⟨b, hb, li.seqs k⟩⟩
/-- the pairs on a ledger -/
def PairsIn (G : List (Addr × Obj)) (a : Addr) (ps : List (Int × Int)) : Prop :=
  ∃ vs n, (a, listOf (List.toArray vs) n) ∈ G ∧ vs.length = ps.length ∧ ∀ i, i < ps.length → ∃ b vb nb, vs[i]? = some (.ref b) ∧ (b, listOf (List.toArray vb) nb) ∈ G ∧ IntsAre vb [(ps.getD i (0, 0)).1, (ps.getD i (0, 0)).2]
theorem PairsIn.mono {G G' : List (Addr × Obj)} {a : Addr} {ps : List (Int × Int)} (x : PairsIn G a ps) (k : ∀ p ∈ G, p ∈ G') : PairsIn G' a ps :=
  let ⟨vs, n, g, hl, hi⟩ := x
  ⟨vs, n, k _ g, hl, fun i lt => let ⟨b, vb, nb, hb, g, i⟩ := hi i lt; ⟨b, vb, nb, hb, k _ g, i⟩⟩
theorem PairsIn.cons {G : List (Addr × Obj)} {q : Addr × Obj} {a : Addr} {ps : List (Int × Int)} (x : PairsIn G a ps) : PairsIn (q :: G) a ps := x.mono fun _ h => .tail _ h
theorem PairsIn.at {hT h : Heap} {L : Addr} {G : List (Addr × Obj)} {a : Addr} {ps : List (Int × Int)} (N : News hT L h G) (x : PairsIn G a ps) : PairsAt hT h a ps :=
  let ⟨vs, n, g, hl, hi⟩ := x
  ⟨(N _ g).2.2, vs, n, (N _ g).1, hl, fun i lt => let ⟨b, vb, nb, hb, g, i⟩ := hi i lt; ⟨b, hb, (N _ g).2.2, vb, nb, (N _ g).1, i⟩⟩
theorem PairsAt.toIn {hT h : Heap} {G : List (Addr × Obj)} {a : Addr} {ps : List (Int × Int)} (x : PairsAt hT h a ps) (hG : ∀ b o, h.get? b = some o → hT.get? b = none → (b, o) ∈ G) : PairsIn G a ps :=
  let ⟨t, vs, n, g, hl, hi⟩ := x
  ⟨vs, n, hG _ _ g t, hl, fun i lt => let ⟨b, hb, tb, vb, nb, gb, ib⟩ := hi i lt; ⟨b, vb, nb, hb, hG _ _ gb tb, ib⟩⟩

/-- symbols with what they spell, as a list of tuples -/
abbrev tupOf (x : Int) (t : Tok) (c : Addr) : Obj := { cls := .type "tuple", data := .seq #[.int x t, .ref c] }
inductive StAll (hT : Heap) (ex : List Addr) (h : Heap) : List Value → List (Int × List Int) → Prop
  | nil : StAll hT ex h [] []
  | cons {b c : Addr} {x : Int} {t : Tok} {os : List Int} {vs : List Value} {st : List (Int × List Int)} : hT.get? b = none → b ∉ ex → h.get? b = some (tupOf x t c) → LI hT h c os → c ∉ ex → StAll hT ex h vs st → StAll hT ex h (.ref b :: vs) ((x, os) :: st)
theorem StAll.keep {hT h h' : Heap} {ex ex' : List Addr} {vs : List Value} {st : List (Int × List Int)} (x : StAll hT ex h vs st) (k : ∀ b o, (∃ xs n, o.data = .seq xs n) → b ∉ ex → h.get? b = some o → h'.get? b = some o) (hx : ∀ b ∈ ex', b ∈ ex) : StAll hT ex' h' vs st := by
  induction x with
  | nil => exact .nil
  | cons a b c d e f ih => exact .cons a (fun q => b (hx _ q)) (k _ _ ⟨_, _, rfl⟩ b c) (d.mono fun o g => k _ _ (by obtain ⟨_, vs, n, g', _⟩ := d; rw [g'] at g; cases g; exact ⟨_, _, rfl⟩) e g) (fun q => e (hx _ q)) ih
theorem StAll.snoc {hT h : Heap} {ex : List Addr} {vs : List Value} {st : List (Int × List Int)} (x : StAll hT ex h vs st) {b c : Addr} {y : Int} {t : Tok} {os : List Int} (a1 : hT.get? b = none) (a2 : b ∉ ex) (a3 : h.get? b = some (tupOf y t c)) (a4 : LI hT h c os) (a5 : c ∉ ex) :
    StAll hT ex h (vs ++ [.ref b]) (st ++ [(y, os)]) := by
  induction x with
  | nil => exact .cons a1 a2 a3 a4 a5 .nil
  | cons a b c d e f ih => exact .cons a b c d e ih
theorem StAll.length {hT h : Heap} {ex : List Addr} {vs : List Value} {st : List (Int × List Int)} (x : StAll hT ex h vs st) : vs.length = st.length := by
  induction x with
  | nil => rfl
  | cons a b c d e f ih => simp [ih]
theorem StAll.get {hT h : Heap} {ex : List Addr} {vs : List Value} {st : List (Int × List Int)} (x : StAll hT ex h vs st) : ∀ (i : Nat) (v : Value), vs[i]? = some v → ∃ b c y t os, v = .ref b ∧ st[i]? = some (y, os) ∧ hT.get? b = none ∧ b ∉ ex ∧ h.get? b = some (tupOf y t c) ∧ LI hT h c os ∧ c ∉ ex := by
  induction x with
  | nil => intro i v h; simp at h
  | cons a b c d e f ih =>
    intro i v hv
    cases i with
    | zero => simp at hv; exact ⟨_, _, _, _, _, hv.symm, rfl, a, b, c, d, e⟩
    | succ j => exact ih j v (by simpa using hv)
theorem PairsAt.ext {hT h h' : Heap} {a : Addr} {ps : List (Int × Int)} (x : PairsAt hT h a ps) (k : Ext h h') : PairsAt hT h' a ps := x.seqs (Seqs.of_ext k)
end

section
section
variable {prog : Program} {w : World} {A : Around} {σ : Heap} {σg : Array GenState} {σd : Drawn} {σt : Nat} {σo : OsState} {Q : Value → Shared → Prop} {E : Value → Shared → Prop} {p : Program} {loose : List Str} {mean : ExcName → Option Value} {mg mb : Str → Option Value}
  {name qual : Str} {params : Arguments} {body : List Stmt} {scope : Scope} {cl : List (Str × Addr)} {dV kV doc pm cdv ct oc : Value} {an od : Option Addr} {osl : Array (Option Value)} {f : Addr} {args : List Value} {binds : List (Str × Value)} {hT : Heap} {fo : Obj}

/-- what the ledger over σ is like, at a call -/
structure LedOf (hT h : Heap) (L : Addr) (G : List (Addr × Obj)) : Prop where
  into : ∀ b o, h.get? b = some o → hT.get? b = none → (b, o) ∈ G
  outof : ∀ p ∈ G, h.get? p.1 = some p.2 ∧ hT.get? p.1 = none
  under : ∀ p ∈ G, p.1 < L
  newL : h.get? L = none
theorem LedOf.ext {h h' : Heap} {L : Addr} {G led : List (Addr × Obj)} {m : Str → Option Value} (x : LedOf hT h L G) (hK : On hT h) (F : Fr hT L h' m) (N : News hT L h' led) (hs : ∀ q ∈ G, q ∈ led) : Ext h h' := fun b o e => by
  cases q : hT.get? b with
  | some o' =>
    have := hK.keep b o' q
    rw [e] at this; cases this
    exact F.keep b o q
  | none => exact (N _ (hs _ (x.into b o e q))).1
theorem ledOf_all (hK : On hT σ) : LedOf hT σ σ.objs.size (All hT [] σ) := by
  refine ⟨fun b o e ht => mem_All.mpr ⟨e, by simp, ht⟩, fun ⟨a, o⟩ hp => ⟨(mem_All.mp hp).1, (mem_All.mp hp).2.2⟩, fun ⟨a, o⟩ hp => Heap.lt_size (mem_All.mp hp).1, ?_⟩
  cases q : σ.get? σ.objs.size with
  | none => rfl
  | some o => exact absurd (Heap.lt_size q) (Nat.lt_irrefl _)

/-- the call of a def that closes over names, its object in the heap -/
theorem enterF (T : Top p loose mean mg mb hT) (hK : On hT σ) (ho : σ.get? f = some fo) (hd : fo.data = .func (fnX name qual params body scope cl dV kV doc pm an cdv ct)) (hcd : σ.CodeRec cdv qual) (hroom : A.depth < recursionLimit)
    (hbind : BindsTo ⟨σ, σg, σd, σt, σo⟩ (fnX name qual params body scope cl dV kV doc pm an cdv ct) ⟨args, []⟩ binds) (hloc : ∀ y ∈ binds, scope.names.lookup y.1 = some .local)
    (h : ∀ G L' h₁ tk, LedOf hT σ L' G → Fr hT L' h₁ (fun y => binds.reverse.lookup y) → News hT L' h₁ G → Ext σ h₁ →
      wpAny (model prog w) (A.deeper (envX qual scope L' f cdv cl)) (execs body (envX qual scope L' f cdv cl))
        (fun fl s' => Q (match fl with | .ret v => v | _ => .none) s') (fun _ _ => False) ⟨h₁, σg, σd, tk, σo⟩)
    (hco : scope.isCoroutine = false := by rfl) (hgen : scope.isGenerator = false := by rfl) (hk : scope.kind = .function := by rfl)
    (hcell : ∀ x ∈ scope.names, x.2 ≠ .cell := by decide) : wpAny (model prog w) A (call (.ref f) args) Q E ⟨σ, σg, σd, σt, σo⟩ := by
  refine wpAny_call ?_
  refine codeAny_call_def (fd := fnX name qual params body scope cl dV kV doc pm an cdv ct) (body := body) (binds := binds) hroom ho hd (T.nolimit.keeps hK.keep) hcd rfl hbind hcell hloc (fun h₁ hns hk₁ => ?_) hco hgen hk
  have LO := ledOf_all hK
  refine wpAny_mono (h (All hT [] σ) σ.objs.size h₁ _ LO ⟨hns, fun b o e => hk₁ b o (hK.keep b o e), hK.size⟩ (fun p hp => ⟨hk₁ _ _ (LO.outof p hp).1, Nat.ne_of_lt (LO.under p hp), (LO.outof p hp).2⟩) hk₁) (fun fl s' hl => hl) fun _ _ y => y.elim

/-- the call of a def with cells -/
theorem enterC {K : Frag} (X : K.In hT) (T : Top p loose mean mg mb hT) (hK : On hT σ)
    (ho : K.lookup f = some ⟨oc, od, .func (fnOf name qual params body scope dV kV doc pm an cdv ct), osl⟩) (hcd : codeIn K cdv qual = true) (hroom : A.depth < recursionLimit)
    (hbind : BindsTo ⟨σ, σg, σd, σt, σo⟩ (fnOf name qual params body scope dV kV doc pm an cdv ct) ⟨args, []⟩ binds)
    (hkind : (binds.all fun y => scope.names.lookup y.1 == some .local || scope.names.lookup y.1 == some .cell) = true) (hnd : ((cellsFrom 0 scope.names []).map (·.1)).Nodup)
    (h : ∀ G L' h₁ tk cells, LedOf hT σ L' G → Fr hT L' h₁ (bindL (envOfC qual scope L' f cdv).kindOf binds fun _ => none) → News hT L' h₁ (cells ++ G) →
      CellsAre (bindC (envOfC qual scope L' f cdv).kindOf binds fun _ => none) (cellsFrom (L' + 1) scope.names []) cells → Ext σ h₁ →
      wpAny (model prog w) (A.deeper (envOfC qual scope L' f cdv)) (execs body (envOfC qual scope L' f cdv))
        (fun fl s' => Q (match fl with | .ret v => v | _ => .none) s') (fun _ _ => False) ⟨h₁, σg, σd, tk, σo⟩)
    (hco : scope.isCoroutine = false := by rfl) (hgen : scope.isGenerator = false := by rfl) (hk : scope.kind = .function := by rfl) : wpAny (model prog w) A (call (.ref f) args) Q E ⟨σ, σg, σd, σt, σo⟩ := by
  refine wpAny_call ?_
  refine codeAny_call_function hroom ((X.keeps hK.keep) _ _ ho) rfl hco hgen rfl (codeRec_of (X.keeps hK.keep) hcd) (hbind _ _ _ _ ?_)
  refine wpAny_newFunctionEnv_cells hk (kindsX hkind _) fun env' he s' x => ?_
  subst he
  refine ⟨(T.nolimit.keeps hK.keep).keeps x.toInCall.keep, codeAny_func ?_⟩
  obtain ⟨h₁, tk, rfl, _⟩ := x.done
  have hk₁ := x.toInCall.keep
  have LO := ledOf_all hK
  obtain ⟨cells, NC, Y⟩ := Cl.news (h₀ := σ) (Nat.le_refl _) fun n c hm => ⟨x.cell n c (lookup_of_mem_nodup (cellsFrom_names scope.names 0 (σ.objs.size + 1) [] [] rfl ▸ hnd) hm), x.above n c hm⟩
  have NT : ∀ b, σ.get? b = none → hT.get? b = none := fun b e => by
    cases q : hT.get? b with
    | none => rfl
    | some o => have := hK.keep b o q; rw [e] at this; cases this
  refine wpAny_mono (h (All hT [] σ) σ.objs.size h₁ tk cells LO ⟨x.toInCall.ns, fun b o e => hk₁ b o (hK.keep b o e), hK.size⟩ (fun p hp => ?_) Y hk₁) (fun fl s' hl => hl) fun _ _ y => y.elim
  rcases List.mem_append.mp hp with hp | hp
  · exact ⟨(NC p hp).1, (NC p hp).2.1, NT _ (NC p hp).2.2⟩
  · exact ⟨hk₁ _ _ (LO.outof p hp).1, Nat.ne_of_lt (LO.under p hp), (LO.outof p hp).2⟩
end

/-- a code's table: empty, or with the one nested def's code -/
def Tab (hT h : Heap) (P : Addr) (qual : Str) (pos : Pos) : Prop :=
  hT.get? P = none ∧ ∃ ps, h.get? P = some (tabObj ps) ∧ (ps = #[] ∨ ∃ c' oc vs t, ps = #[rawInt pos.line, rawInt pos.col, .ref c'] ∧ h.get? c' = some oc ∧ hT.get? c' = none ∧ oc.data = .fields vs ∧ vs[1]? = some (.str qual t))
theorem Tab.keep {hT h h' : Heap} {P : Addr} {qual : Str} {pos : Pos} (x : Tab hT h P qual pos) (k : ∀ b o, (∃ vs, o.data = .fields vs) → h.get? b = some o → h'.get? b = some o) : Tab hT h' P qual pos := by
  obtain ⟨a, ps, b, c⟩ := x
  refine ⟨a, ps, k _ _ ⟨_, rfl⟩ b, c.imp id ?_⟩
  rintro ⟨c', oc, vs, t, e1, e2, e3, e4, e5⟩
  exact ⟨c', oc, vs, t, e1, k _ _ ⟨_, e4⟩ e2, e3, e4, e5⟩
section
variable {M : Model} {A : Around} {E : Value → Shared → Prop} {σ : Heap} {σg : Array GenState} {σd : Drawn} {σt : Nat} {σo : OsState} {h₀ : Heap} {L a c P : Addr} {m mg mb : Str → Option Value} {cn : Str} {cs : Scope} {ccd : Value} {cl : List (Str × Addr)} {news : List (Addr × Obj)} {g : Obj → List (Addr × Obj)}
  {p : Program} {loose : List Str} {mean : ExcName → Option Value} {name qual : Str} {params : Arguments} {body : List Stmt} {scope : Scope} {ps : Array Value} {pos : Pos} {firstLine : Nat} {clos : List (Str × Addr)}
theorem News_sub {h : Heap} {led : List (Addr × Obj)} (N : News h₀ L h news) (hs : ∀ p ∈ led, p ∈ news) : News h₀ L h led := fun p hp => N p (hs p hp)
theorem News_at {h : Heap} {own G : List (Addr × Obj)} {o : Obj} (N : News h₀ L h (own ++ G)) (hm : (P, o) ∈ G) : ∃ G', News h₀ L h (own ++ (P, o) :: G') ∧ (∀ p ∈ G', p.1 ≠ P) ∧ (∀ p ∈ G', p ∈ G) ∧ ∀ p ∈ G, p.1 ≠ P → p ∈ G' := by
  refine ⟨G.filter fun p => decide (p.1 ≠ P), News_sub N fun p hp => ?_, fun p hp => of_decide_eq_true (List.mem_filter.mp hp).2, fun p hp => (List.mem_filter.mp hp).1, fun p hp q => List.mem_filter.mpr ⟨hp, decide_eq_true q⟩⟩
  rcases List.mem_append.mp hp with hp | hp
  · exact List.mem_append_left _ hp
  · rcases List.mem_cons.mp hp with rfl | hp
    · exact List.mem_append_right _ hm
    · exact List.mem_append_right _ (List.mem_filter.mp hp).1
theorem nest_any {Q : Value → Shared → Prop} (F : Fr h₀ L σ m) (N : News h₀ L σ news) (T : Top p loose mean mg mb h₀) (C : CodeHd h₀ c P) (hcd : ccd = .ref c) (U : UpdF P (tabObj ps) news g)
    (hf : ps = #[] ∨ ∃ c' oc vs t, ps = #[rawInt pos.line, rawInt pos.col, .ref c'] ∧ (c', oc) ∈ news ∧ oc.data = .fields vs ∧ vs[1]? = some (.str qual t))
    (hcl : closureFor scope (envX cn cs L a ccd cl) = pure clos)
    (h : ∀ f c' oc vs t ctv doc h' tk, Fr h₀ L h' m →
      News h₀ L h' ((f, fnMade name qual params body scope clos doc ((mg "__name__").getD .none) c' ctv) :: (c', oc) :: g (tabObj #[rawInt pos.line, rawInt pos.col, .ref c'])) →
      oc.data = .fields vs → vs[1]? = some (.str qual t) → (∀ q ∈ news, q.1 < f) → Q (.ref f) ⟨h', σg, σd, tk, σo⟩) :
    wpAny M A (makeFunction name qual params (.stmts body) scope (envX cn cs L a ccd cl) [] [] [] pos firstLine) Q E ⟨σ, σg, σd, σt, σo⟩ := by
  obtain ⟨own, rest, hn, hgr, h1, h2⟩ := U.split
  rcases hf with rfl | ⟨c', oc, vs, t, rfl, hm, hd, hv⟩
  · refine nest_K F N T C hcd U trivial rfl hcl fun f c' oc vs t ctv doc h' tk F' N' hd hv l1 l2 => ?_
    have e : (#[] : Array Value) ++ #[rawInt pos.line, rawInt pos.col, .ref c'] = #[rawInt pos.line, rawInt pos.col, .ref c'] := by simp
    rw [e] at N'
    exact h f c' oc vs t ctv doc h' tk F' N' hd hv fun q hq => Nat.lt_trans (l1 q hq) l2
  · have hmem : (P, tabObj #[rawInt pos.line, rawInt pos.col, .ref c']) ∈ news := by rw [hn]; exact List.mem_append_right _ (.head _)
    have hok : TriplesOk (#[rawInt pos.line, rawInt pos.col, .ref c'] : Array Value).toList := by simp [TriplesOk, rawInt]
    have hhit : codeAmong pos (#[rawInt pos.line, rawInt pos.col, .ref c'] : Array Value).toList = some (.ref c') := by simp [codeAmong, rawInt]
    refine nestHit_K F N T C hcd hmem hok hhit hcl fun f ctv doc h' tk F' N' l1 => ?_
    refine h f c' oc vs t ctv doc h' tk F' ?_ hd hv l1
    intro q hq
    rcases List.mem_cons.mp hq with rfl | hq
    · exact N' _ (.head _)
    · rcases List.mem_cons.mp hq with rfl | hq
      · exact N' _ (.tail _ hm)
      · refine N' _ (.tail _ ?_)
        rw [hn]
        rw [hgr] at hq
        exact hq
end
section
variable {prog : Program} {w : World} {A : Around} {E : Value → Shared → Prop} {σ : Heap} {σg : Array GenState} {σd : Drawn} {σt : Nat} {σo : OsState} {Q : Value → Shared → Prop}
theorem shl_call {a k : Int} {t u : Tok} (hh : A.handled = none) (ha : Builtin.Int.intBits a ≤ 10000) (h0 : 0 ≤ k) (hk : k ≤ 10000) (h : ∀ t tk, Q (.int (a * 2 ^ k.toNat) t) ⟨σ, σg, σd, tk, σo⟩) :
    wpAny (model prog w) A (binaryOp .LShift (.int a t) (.int k u)) Q E ⟨σ, σg, σd, σt, σo⟩ :=
  lshift_int_or hh (fun q => absurd h0 (by omega)) (fun _ => by omega) (fun _ => h _ _)
end
theorem bits_dval {n : Nat} {xs : List Int} (hx : ∀ x ∈ xs, 0 ≤ x ∧ x < 2 ^ n) (hn : n ≤ 64) (hl : xs.length ≤ 64) : Builtin.Int.intBits (dval (2 ^ n) xs) ≤ 10000 := by
  have hp : (0 : Int) < 2 ^ n := Int.pow_pos (by decide)
  obtain ⟨h1, h2⟩ := dval_bound hp xs hx
  rw [← Int.pow_mul] at h2
  have key : Builtin.Int.intBits (dval (2 ^ n) xs) ≤ n * xs.length := intBits_le_iff.mpr ?_
  · exact Nat.le_trans key (Nat.le_trans (Nat.mul_le_mul hn hl) (by decide))
  have h3 : ((dval (2 ^ n) xs).natAbs : Int) = dval (2 ^ n) xs := Int.natAbs_of_nonneg h1
  have h4 : ((2 ^ (n * xs.length) : Nat) : Int) = (2 : Int) ^ (n * xs.length) := by push_cast; rfl
  omega
end

section
theorem Tab.keepS {hT h h' : Heap} {P : Addr} {qual : Str} {pos : Pos} (x : Tab hT h P qual pos) (k : KeptS h h') : Tab hT h' P qual pos := by
  obtain ⟨a, ps, b, c⟩ := x
  refine ⟨a, ps, k _ _ (.inr ⟨_, rfl, ?_⟩) b, c.imp id ?_⟩
  · intro x l st q
    rcases c with rfl | ⟨c', oc, vs, t, e1, e2, e3, e4, e5⟩
    · simp at q
    · rw [e1] at q; simp [rawInt] at q
  · rintro ⟨c', oc, vs, t, e1, e2, e3, e4, e5⟩
    refine ⟨c', oc, vs, t, e1, k _ _ (.inr ⟨_, e4, ?_⟩) e2, e3, e4, e5⟩
    intro x l st q
    rw [q] at e5; simp [rawInt] at e5
end

section
open PySem.Sem (wp)
def ByteAt (b : Array UInt8) (i : Nat) (v : Value) : Prop := ∃ c u, b[i]? = some c ∧ v = Value.int (c.toNat : Int) u
section
variable {prog : Program} {w : World} {A : Around} {E : Value → Shared → Prop} {s : Shared}
theorem extend_bytes {R : Result → Shared → Prop} (hh : A.handled = none) (x : Array UInt8) (t : Tok) (S : Addr) (res : Value) (c₀ : Nat) (hS : s.heap.get? S = some { cls := .type "list", data := .seq #[] c₀ })
    (hn : x.size ≤ sizeLine)
    (hR : ∀ h' tk acc' c', (∀ b o, b ≠ S → s.heap.get? b = some o → h'.get? b = some o) → h'.get? S = some { cls := .type "list", dict := none, data := .seq acc' c', slots := #[] } →
      ItemsOf (ByteAt x) acc' x.size → R (.ok (.ret res)) { s with heap := h', toks := tk }) :
    wpAny (model prog w) A.in1 (Builtin.List.listExtendWith (.ref S) (.bytes x t) res)
      (fun fin s' => match fin with | .done f => R (.ok f) s' | .again c' => c'.quiet = true ∧ codeAny (model prog w) A c' R s') (fun e s' => R (.error e) s') s := by
  have hSI : S ≠ s.heap.objs.size := Nat.ne_of_lt (Heap.lt_size hS)
  have hSf : S ∉ [s.heap.objs.size] := fun hm => hSI (List.mem_singleton.mp hm)
  unfold Builtin.List.listExtendWith
  refine wpAny_bind (wpAny_typeOf (T := "bytes") (v := .bytes x t) rfl ?_)
  have h1 : Builtin.List.listSameRef (.ref S) (.bytes x t) = false := rfl
  have h2 : (Value.type "bytes" == Value.type "list") = false := by decide
  have h3 : (Value.type "bytes" == Value.type "tuple") = false := by decide
  simp only [h1, h2, h3, Bool.or_false, Bool.false_eq_true, if_false]
  refine wpAny_bind (KBw.pyIter_bytes ?_)
  refine wpAny_bind (wpAny_holding ?_)
  unfold Builtin.List.listLengthHint
  refine wpAny_bind (wpAny_specialOf (T := "bytes") (v := .bytes x t) rfl FB.slot_bytes_len.lookup ?_)
  wp_delta
  refine wpAny_bind (wpAny_isInstance (T := "bytes") (v := .bytes x t) (b := true) rfl (by rw [isSubtype_type]; kernel_rfl) ?_)
  show wpAny _ _ (typeOf (Value.bytes x t) >>= _) _ _ _
  refine wpAny_bind (wpAny_typeOf (T := "bytes") (v := .bytes x t) rfl ?_)
  refine wpAny_pure ?_
  rw [if_neg (by decide)]
  refine wpAny_pure ⟨plainId_quiet F.plain_extend_loop _, codeAny_extend_loopS (KBw.walks (A := A.in1) hh s.heap.objs.size x t).toS hn _ hSf _ x.size 0 _ _ _ rfl (Nat.zero_le _) ⟨_, Heap.get?_push_size _ rfl, rfl, rfl⟩ (Heap.get?_push_of_some _ hS) (ItemsOf.nil _) fun s' acc' c' hm hS' hacc => ?_⟩
  rw [Moved.eq_with hm]
  refine hR s'.heap s'.toks acc' c' (fun b ob hb e => hm.heap b ob (fun hmem => ?_) (Heap.get?_push_of_some _ e)) hS' hacc
  rcases List.mem_cons.mp hmem with e' | hmem
  · exact hb e'
  · exact absurd (Heap.lt_size e) (by rw [List.mem_singleton.mp hmem]; exact Nat.lt_irrefl _)

theorem init_bytes {R : Result → Shared → Prop} (hh : A.handled = none) (x : Array UInt8) (t : Tok) (S : Addr) (hS : s.heap.get? S = some { cls := .type "list", data := .seq #[] })
    (hn : x.size ≤ sizeLine)
    (hR : ∀ h' tk acc' c', (∀ b o, b ≠ S → s.heap.get? b = some o → h'.get? b = some o) → h'.get? S = some { cls := .type "list", dict := none, data := .seq acc' c', slots := #[] } →
      ItemsOf (ByteAt x) acc' x.size → R (.ok (.ret .none)) { s with heap := h', toks := tk }) :
    wpAny (model prog w) A.in1 (Builtin.«list.__init__» ⟨[.ref S, .bytes x t], []⟩)
      (fun fin s' => match fin with | .done f => R (.ok f) s' | .again c' => c'.quiet = true ∧ codeAny (model prog w) A c' R s') (fun e s' => R (.error e) s') s := by
  show wpAny _ _ (do let old ← Builtin.List.listItems (.ref S); Builtin.List.listUpdate (.ref S) (fun _ => #[]); letGo old.toList.reverse; Builtin.List.listExtendWith (.ref S) (.bytes x t) .none) _ _ s
  refine wpAny_bind ?_
  unfold Builtin.List.listItems
  refine wpAny_bind (wpAny_seqItems hS rfl (wpAny_pure ?_))
  show wpAny _ _ (updateSeq S (fun _ => #[]) >>= fun _ => letGo (#[] : Array Value).toList.reverse >>= fun _ => Builtin.List.listExtendWith (.ref S) (.bytes x t) .none) _ _ s
  refine wpAny_bind (wpAny_updateSeq hS rfl ?_)
  have hS₂ := Heap.get?_update_self (Obj.mapSeq (fun _ => (#[] : Array Value))) hS rfl
  have oth : ∀ b o, b ≠ S → s.heap.get? b = some o → (s.heap.update S (Obj.mapSeq (fun _ => (#[] : Array Value)))).get? b = some o :=
    fun b o hb e => (Heap.get?_update_other _ _ (Ne.symm hb)).trans e
  refine wpAny_bind (wpAny_letGo ?_)
  refine extend_bytes hh x t S .none _ hS₂ hn fun h' tk acc' c' hk hS' hacc => ?_
  exact hR h' tk acc' c' (fun b o hb e => hk b o hb (oth b o hb e)) hS' hacc

theorem call_list_bytes {Q : Value → Shared → Prop} (hh : A.handled = none) (x : Array UInt8) (t : Tok) (hn : x.size ≤ sizeLine)
    (hQ : ∀ h' tk acc' c', (∀ b o, s.heap.get? b = some o → h'.get? b = some o) →
      h'.get? s.heap.objs.size = some { cls := .type "list", dict := none, data := .seq acc' c', slots := #[] } → ItemsOf (ByteAt x) acc' x.size → Q (.ref s.heap.objs.size) { s with heap := h', toks := tk }) :
    wpAny (model prog w) A (call (.type "list") [.bytes x t]) Q E s := by
  refine callType_codes (Q₁ := fun obj s₁ => obj = .ref s.heap.objs.size ∧ s₁ = { s with heap := s.heap.push { cls := .type "list", data := .seq #[] } }) F.called_list (F.typeCall_list_1 _) F.entry_list_init
    (code_list_new _ ⟨rfl, rfl⟩) fun obj s₁ h₁ => ?_
  obtain ⟨rfl, rfl⟩ := h₁
  have hS : (s.heap.push { cls := .type "list", data := .seq #[] }).get? s.heap.objs.size = some { cls := .type "list", data := .seq #[] } := Heap.get?_push_size _ rfl
  refine ⟨⟨_, hS, rfl⟩, F.args_list_init_2 _ _, init_bytes (A := A.in1) hh x t _ hS hn fun h' tk acc' c' hk hS' hacc => ?_⟩
  exact ⟨rfl, hQ h' tk acc' c' (fun b o e => hk b o (Nat.ne_of_lt (Heap.lt_size e)) (Heap.get?_push_of_some _ e)) hS' hacc⟩
variable {h₀ : Heap} {L : Addr} {m : Str → Option Value} {news : List (Addr × Obj)}
theorem list_bytesK {Q : Value → Shared → Prop} {b : Array UInt8} {t : Tok} {ks : List Int} (hh : A.handled = none) (F : Fr h₀ L s.heap m) (N : News h₀ L s.heap news) (hk : KBw.bInts b = ks) (hfit : ks.length ≤ 16777216)
    (h : ∀ D c vs h' tk, Fr h₀ L h' m → News h₀ L h' ((D, listOf (List.toArray vs) c) :: news) → (∀ q ∈ news, q.1 < D) → IntsAre vs ks → Q (.ref D) { s with heap := h', toks := tk }) :
    wpAny (model prog w) A (call (.type "list") [.bytes b t]) Q E s := by
  subst hk
  rw [KBw.ints_length] at hfit
  refine call_list_bytes hh b t (by rw [sizeLine_eq]; exact hfit) fun h' tk acc' c' hk hS' hacc => ?_
  have hfr : h₀.get? s.heap.objs.size = none := by
    cases q : h₀.get? s.heap.objs.size with
    | none => rfl
    | some o => exact absurd (Heap.lt_size (F.keep _ _ q)) (Nat.lt_irrefl _)
  refine h s.heap.objs.size c' acc'.toList h' tk (F.keptAll hk) ?_ (fun q hq => Heap.lt_size (N q hq).1) ?_
  · intro p hp
    rcases List.mem_cons.mp hp with rfl | hp
    · refine ⟨?_, Nat.ne_of_gt F.ns.lt, hfr⟩
      rw [Array.toArray_toList]
      exact hS'
    · exact ⟨hk _ _ (N p hp).1, (N p hp).2⟩
  · obtain ⟨h1, h2⟩ := hacc
    have e1 : acc'.toList.length = (KBw.bInts b).length := by rw [KBw.ints_length, Array.length_toList, h1]
    have key : ∀ (vs : List Value) (ks : List Int), vs.length = ks.length → (∀ (i : Nat) (v : Value), vs[i]? = some v → ∃ (k : Int) (u : Tok), ks[i]? = some k ∧ v = Value.int k u) → IntsAre vs ks := by
      intro vs
      induction vs with
      | nil => intro ks hl _; cases ks with
        | nil => exact .nil
        | cons _ _ => simp at hl
      | cons v vs ih => intro ks hl hi; cases ks with
        | nil => simp at hl
        | cons k ks =>
          obtain ⟨k', u, e1, rfl⟩ := hi 0 v rfl
          cases e1
          exact .cons _ _ (ih ks (by simpa using hl) fun i v hv => hi (i + 1) v hv)
    refine key _ _ e1 fun i v hv => ?_
    obtain ⟨c, u, hc, rfl⟩ := h2 i v (by simpa using hv)
    exact ⟨_, u, KBw.ints_get hc, rfl⟩
end
end

local macro_rules | `(tactic| news_mem) => `(tactic| first | assumption | exact List.Mem.head _ | (refine List.Mem.tail _ ?_; news_mem))
local macro_rules | `(tactic| walk_at "subscriptTail") => `(tactic| (refine item_listL (by is_list) (by omega) (by omega) (by assumption) ?_))
local macro_rules | `(tactic| walk_at "subscriptTail Name Slice ref ref") => `(tactic| ((with_reducible rename Fr _ _ _ _ => F9); (with_reducible rename News _ _ _ _ => N9); (first | refine slice_lohi F9 N9 (by is_list) (by assumption) (by omega) (by omega) (by omega) (by omega)  ?_ | refine slice_to F9 N9 (by is_list) (by assumption) (by omega) (by omega) ?_ | refine slice_from F9 N9 (by is_list) (by assumption) (by omega) (by omega) ?_ | refine slice_rev F9 N9 (by is_list) (by assumption) (by omega) ?_); intro D9 ws9 h9 F9 N9 lt9 i9; (try k_lt lt9)))
local macro_rules | `(tactic| walk_at "compareOp In int ref") => `(tactic| (refine in_list_ints (by is_list) (by assumption) ?_))
local macro_rules | `(tactic| walk_at "compareOp Eq ref ref") => `(tactic| (refine eq_intsK (by is_list) (by l_ints) (by is_list) (by l_ints) (by ktr_units) ?_))
local macro_rules | `(tactic| walk_at "call builtin:len") => `(tactic| first
  | (refine len_any (by is_list) (by assumption) (by omega) ?_; intro _ _)
  | (refine len_any (by is_list) (IntsAre.length (by assumption)) (by omega) ?_; intro _ _))
local macro_rules | `(tactic| k_all) => `(tactic| assumption)
local macro_rules | `(tactic| walk_at "call builtin:list.append") => `(tactic| ((with_reducible rename Fr _ _ _ _ => F9); (with_reducible rename News _ _ _ _ => N9); (refine' append_U F9 N9 ?U ?z ?_; (case U => k_upd); (case z => ((try simp only [List.length_append, List.length_cons, List.length_nil, List.length_dropLast]); omega))); intro h9 F9 N9))
local macro_rules | `(tactic| walk_at "call builtin:list.pop") => `(tactic| ((with_reducible rename Fr _ _ _ _ => F9); (with_reducible rename News _ _ _ _ => N9); (refine' pop_U F9 N9 ?i ?U ?z ?_; (case i => assumption); (case U => k_upd); (case z => omega)); intro h9 t9 F9 N9 i9))
local macro_rules | `(tactic| walk_at "compareOp NotEq ref ref") => `(tactic| (refine ne_intsK (by is_list) (by l_ints) (by is_list) (by l_ints) (by ktr_units) ?_))
local macro_rules | `(tactic| walk_at "binaryOp Mult ref int") => `(tactic| ((with_reducible rename Fr _ _ _ _ => F9); (with_reducible rename News _ _ _ _ => N9); (refine mul_single F9 N9 (N9 _ (by news_mem)).1 (by omega) (by omega) ?_); intro D9 h9 F9 N9 lt9; (try k_lt lt9)))
local macro_rules | `(tactic| ktr_unf) => `(tactic| repeat' (first
  | (with_reducible show wpAny _ _ (exec (Stmt.While _ _ _ _) _) _ _ _; fail)
  | ((fail_if_success (with_reducible show wpAny _ _ (exec (Stmt.While _ _ _ _) _) _ _ _)); (fail_if_success (with_reducible show wpAny _ _ (exec (Stmt.For _ _ _ _ _) _) _ _ _)); (first | walk1 | (dsimp only; walk1)))))

section
theorem startToks : True := by
  w_top off
  trivial
set_option maxHeartbeats 1000000
section
theorem term_call {prog : Program} {w : World} {σ : Heap} {σg : Array GenState} {σd : Drawn} {σt : Nat} {σo : OsState} {Q E : Value → Shared → Prop} {p : Program} {loose : List Str} {mean : ExcName → Option Value} {mg mb : Str → Option Value} {hT : Heap}
    {dp un : Nat} {fr : Option (List Env)} {gd : Option (List Code)} {x : Int} {t : Tok}
    (X : (hd.heap_39 w.params).In hT) (T : Top p loose mean mg mb hT) (hK : On hT σ) (hdp : dp + 50 < recursionLimit) (hun : un + 500 < cLine)
    (hret : ∀ h' tk', Ext σ h' → Q (.bool (decide (x < 256))) ⟨h', σg, σd, tk', σo⟩) :
    wpAny (model prog w) { handled := none, depth := dp, frames := fr, guards := gd, units := un } (call (.ref 21) [.int x t]) Q E ⟨σ, σg, σd, σt, σo⟩ := by
  have hfill : Fill Mine.hd.heap_39 PySem.Challenge.rw_ul0003_01 := by (k_fill; trivial)
  refine' enterG X T hK ?k6 ?k7 ?k8 ?k9 ?kB ?_ ?c2 ?c3 ?c4 ?c5
  (case k6 => k_is); (case k7 => k_is); (case k8 => ktr_room); (case k9 => exact BindsTo.of_eq rfl); (case c5 => decide); (case kB => exact locs rfl); (case c2 => exact rfl); (case c3 => exact rfl); (case c4 => exact rfl)
  intro G L h₁ tk₁ hG hGs hGL hExt hBL F N hE1
  try dsimp only
  ktr_unf
  exact hret _ _ hE1
theorem nont_call {prog : Program} {w : World} {σ : Heap} {σg : Array GenState} {σd : Drawn} {σt : Nat} {σo : OsState} {Q E : Value → Shared → Prop} {p : Program} {loose : List Str} {mean : ExcName → Option Value} {mg mb : Str → Option Value} {hT : Heap}
    {dp un : Nat} {fr : Option (List Env)} {gd : Option (List Code)} {x : Int} {t : Tok}
    (X : (hd.heap_39 w.params).In hT) (T : Top p loose mean mg mb hT) (hK : On hT σ) (hdp : dp + 50 < recursionLimit) (hun : un + 500 < cLine)
    (hret : ∀ h' tk', Ext σ h' → Q (.bool (decide (256 ≤ x))) ⟨h', σg, σd, tk', σo⟩) :
    wpAny (model prog w) { handled := none, depth := dp, frames := fr, guards := gd, units := un } (call (.ref 28) [.int x t]) Q E ⟨σ, σg, σd, σt, σo⟩ := by
  refine' enterG X T hK ?k6 ?k7 ?k8 ?k9 ?kB ?_ ?c2 ?c3 ?c4 ?c5
  (case k6 => k_is); (case k7 => k_is); (case k8 => ktr_room); (case k9 => exact BindsTo.of_eq rfl); (case c5 => decide); (case kB => exact locs rfl); (case c2 => exact rfl); (case c3 => exact rfl); (case c4 => exact rfl)
  intro G L h₁ tk₁ hG hGs hGL hExt hBL F N hE1
  try dsimp only
  ktr_unf
  exact hret _ _ hE1
theorem eof_call {prog : Program} {w : World} {σ : Heap} {σg : Array GenState} {σd : Drawn} {σt : Nat} {σo : OsState} {Q E : Value → Shared → Prop} {p : Program} {loose : List Str} {mean : ExcName → Option Value} {mg mb : Str → Option Value} {hT : Heap}
    {dp un : Nat} {fr : Option (List Env)} {gd : Option (List Code)} {x : Int} {t : Tok}
    (X : (hd.heap_39 w.params).In hT) (T : Top p loose mean mg mb hT) (hK : On hT σ) (hdp : dp + 50 < recursionLimit) (hun : un + 500 < cLine)
    (hret : ∀ h' tk', Ext σ h' → Q (.bool (decide (x = 0))) ⟨h', σg, σd, tk', σo⟩) :
    wpAny (model prog w) { handled := none, depth := dp, frames := fr, guards := gd, units := un } (call (.ref 35) [.int x t]) Q E ⟨σ, σg, σd, σt, σo⟩ := by
  refine' enterG X T hK ?k6 ?k7 ?k8 ?k9 ?kB ?_ ?c2 ?c3 ?c4 ?c5
  (case k6 => k_is); (case k7 => k_is); (case k8 => ktr_room); (case k9 => exact BindsTo.of_eq rfl); (case c5 => decide); (case kB => exact locs rfl); (case c2 => exact rfl); (case c3 => exact rfl); (case c4 => exact rfl)
  intro G L h₁ tk₁ hG hGs hGL hExt hBL F N hE1
  try dsimp only
  ktr_unf
  exact hret _ _ hE1
end
end

section
theorem startJoined : True := by
  w_top off
  trivial
local macro_rules | `(tactic| walk_at "idle") => `(tactic| skip)
set_option maxHeartbeats 1000000
section
theorem sub_lt_sub {n a b : Nat} (h : a < n) (hb : 0 < b) : n - (a + b) < n - a := by rw [← Nat.sub_sub]; exact Nat.sub_lt (Nat.sub_pos_of_lt h) hb
structure JW (hw : Heap) (L D r pa : Addr) (t : Tok) (i : Nat) (l rr : Int) (R : List Int) (k : Nat) (m' : Str → Option Value) (h' : Heap) (a : Nat) (os : List Int) (ta : Tok) (vo : List Value) (no : Nat) : Prop where
  q1 : m' "at" = some (.int a ta)
  q2 : a ≤ R.length
  q3 : k = R.length - a
  q4 : os ++ mrg l rr (256 + i) (R.drop a) = mrg l rr (256 + i) R
  q5 : os.length ≤ a
  q6 : m' "out" = some (.ref D)
  q7 : m' "row" = some (.ref r)
  q8 : m' "pairs" = some (.ref pa)
  q9 : m' "k" = some (.int i t)
  q10 : h'.get? D = some (listOf (List.toArray vo) no)
  q11 : IntsAre vo os
  q12 : ∀ b o, hw.get? b = some o → b ∉ [D] → b ≠ L → h'.get? b = some o
theorem joined_call {prog : Program} {w : World} {σ : Heap} {σg : Array GenState} {σd : Drawn} {σt : Nat} {σo : OsState} {Q E : Value → Shared → Prop} {p : Program} {loose : List Str} {mean : ExcName → Option Value} {mg mb : Str → Option Value} {hT : Heap}
    {dp un : Nat} {fr : Option (List Env)} {gd : Option (List Code)} {row pa : Addr} {xs : List Int} {ps : List (Int × Int)}
    (X : (hd.heap_39 w.params).In hT) (T : Top p loose mean mg mb hT) (hK : On hT σ) (hdp : dp + 50 < recursionLimit) (hun : un + 500 < cLine)
    (hrow : LI hT σ row xs) (hps : PairsAt hT σ pa ps) (hlen : xs.length ≤ 1000) (hlp : ps.length ≤ 1000)
    (hret : ∀ r h' tk', Ext σ h' → (r = row ∨ σ.get? r = none) → LI hT h' r (Jn ps xs) → Q (.ref r) ⟨h', σg, σd, tk', σo⟩) :
    wpAny (model prog w) { handled := none, depth := dp, frames := fr, guards := gd, units := un } (call (.ref 101) [.ref row, .ref pa]) Q E ⟨σ, σg, σd, σt, σo⟩ := by
  have hfill : Fill Mine.hd.heap_39 PySem.Challenge.rw_ul0003_01 := by (k_fill; trivial)
  refine' enterG X T hK ?k6 ?k7 ?k8 ?k9 ?kB ?_ ?c2 ?c3 ?c4 ?c5
  (case k6 => k_is); (case k7 => k_is); (case k8 => ktr_room); (case k9 => exact BindsTo.of_eq rfl); (case c5 => decide); (case kB => exact locs rfl); (case c2 => exact rfl); (case c3 => exact rfl); (case c4 => exact rfl)
  intro G L h₁ tk₁ hG hGs hGL hExt hBL F N hE1
  try dsimp only
  walk1
  refine for_range (hT := hT) (L := L) σ rfl rfl rfl rfl (fun i m h => ∃ r, (r = row ∨ σ.get? r = none) ∧ m "row" = some (.ref r) ∧ m "pairs" = some (.ref pa) ∧ LI hT h r (Jto ps xs i) ∧ PairsAt hT h pa ps) 0 ps.length (by decide) (by decide) (by omega) hBL ?_ ?_ ?_ ?_
  · rintro i m h h' ⟨r, h0, h1, h2, h3, h4⟩ k
    exact ⟨r, h0, h1, h2, h3.seqs k, h4.seqs k⟩
  · obtain ⟨hT4, vp, np, gp, lp, ip⟩ := id hps
    have hpa := hG _ _ gp hT4
    ktr_unf
    with_reducible rename Fr _ _ _ _ => F4
    with_reducible rename News _ _ _ _ => N4
    have hE4 := hExt _ _ _ F4 N4 (fun p hp => hp)
    exact RangeAt.intro (by assumption) (Int.zero_add _).symm F4 hE4 ⟨row, .inl rfl, rfl, rfl, hrow.ext hE4, hps.ext hE4⟩
  · rintro i m h tk it oit t hi ⟨r, h0, h1, h2, h3, h4⟩ hE2 F2 hit hitf hitT hitB hitL K₁ hK₁
    obtain ⟨G2, N2, hG2, hG2x, hG2L⟩ := led_all F2 []
    obtain ⟨hT3, vr, nr, gr, ir⟩ := h3
    obtain ⟨hT4, vp, np, gp, lp, ip⟩ := h4
    have mr := hG2 _ _ gr (by simp) (ns_ne F2 gr rfl) hT3
    have mp := hG2 _ _ gp (by simp) (ns_ne F2 gp rfl) hT4
    have mi := hG2 _ _ hit (by simp) hitL hitT
    have hip := ip
    obtain ⟨b, hb, hT5, vb, nb, gb, ib⟩ := ip i hi
    clear ip
    have mb' := hG2 _ _ gb (by simp) (ns_ne F2 gb rfl) hT5
    rw [Int.zero_add] at F2
    have hRl : (Jto ps xs i).length ≤ 1000 := Nat.le_trans (Jto_length ps xs i) hlen
    generalize hRe : Jto ps xs i = R at *
    replace F2 := Fr_names [(Str.ofString "k", .int i t), (Str.ofString "row", .ref r), (Str.ofString "pairs", .ref pa)] F2 (by
      intro p hp
      simp only [List.mem_cons, List.not_mem_nil, or_false] at hp
      rcases hp with rfl | rfl | rfl
      · rfl
      · exact h1
      · exact h2)
    have hK2 := F2.keep
    have hS := fun h' => seqs_of (h' := h') F2
    generalize hle : (ps.getD i (0, 0)).1 = l at *
    generalize hre : (ps.getD i (0, 0)).2 = rr at *
    ktr_unf
    · rename_i ha _ D _ lt _ hw Fw Nw
      have hD := Nw _ (.head _)
      have hKw := Fw.keep
      have hDf : σ.get? D = none := by
        cases q : σ.get? D with
        | none => rfl
        | some o => exact absurd (lt _ (hG2 D o (hE2 _ _ q) (by simp) hD.2.1 hD.2.2)) (Nat.lt_irrefl _)
      refine while_loop (hT := hT) (L := L) (fun k m' h' => ∃ (a : Nat) (os : List Int) (ta : Tok) (vo : List Value) (no : Nat), JW hw L D r pa t i l rr R k m' h' a os ta vo no) R.length Fw ?_ ?_
      · exact ⟨0, [], _, [], 0, rfl, Nat.zero_le _, rfl, rfl, Nat.le_refl _, rfl, rfl, rfl, rfl, hD.1, .nil, fun b o e _ _ => e⟩
      · rintro k m' h' tk' ⟨a, os, ta, vo, no, q1, q2, q3, q4, q5, q6, q7, q8, q9, q10, q11, q12⟩ F3 K₂ hK₂
        obtain ⟨G3, N3, hG3, hG3x, hG3L⟩ := led_all F3 [D]
        have hne : ∀ p ∈ G3, p.1 ≠ D := fun p hp => fun e => (hG3x p hp).1 (by rw [e]; exact .head _)
        have hsub : ∀ p ∈ G2, p ∈ G3 := fun p hp => by
          have P := Nw p (.tail _ hp)
          have n1 : p.1 ∉ [D] := by intro q; rw [List.mem_singleton] at q; exact Nat.ne_of_lt (lt p hp) q
          exact hG3 _ _ (q12 _ _ P.1 n1 P.2.1) n1 P.2.1 P.2.2
        replace N3 := News_cons N3 q10 hD.2.1 hD.2.2
        replace mr := hsub _ mr
        replace mp := hsub _ mp
        replace mb' := hsub _ mb'
        replace F3 := Fr_names [(Str.ofString "at", .int a ta), (Str.ofString "out", .ref D), (Str.ofString "row", .ref r), (Str.ofString "pairs", .ref pa), (Str.ofString "k", .int i t)] F3 (by
          intro p hp
          simp only [List.mem_cons, List.not_mem_nil, or_false] at hp
          rcases hp with rfl | rfl | rfl | rfl | rfl <;> assumption)
        have hvo := q11.length
        clear Nw Fw
        ktr_unf
        · with_reducible rename Fr _ _ _ _ => F4
          with_reducible rename News _ _ _ _ => N4
          with_reducible rename List.take _ _ = _ => hc
          have e2 : ((a : Int) + 2 - a).toNat = 2 := by omega
          rw [e2, Int.toNat_natCast] at hc
          obtain ⟨y1, y2⟩ := mrg_yes (s := 256 + i) hc
          refine hK₂ _ _ _ (R.length - (a + 2)) F4 (by rw [q3]; exact sub_lt_sub (Nat.lt_of_lt_of_le (Nat.lt_add_of_pos_right (by decide)) y2) (by decide)) ⟨a + 2, os ++ [(256 + i : Int)], _, _, _, rfl, y2, rfl, ?_, ?_, rfl, rfl, rfl, rfl, (N4 _ (.tail _ (.head _))).1, IntsAre_snoc q11 _ _, ?_⟩
          · rw [← q4, y1, List.append_assoc]; rfl
          · simp only [List.length_append, List.length_cons, List.length_nil]; omega
          · exact kept_of hKw (fun b o e hb hL ht => hG3 b o (q12 b o e hb hL) hb hL ht) F4 N4 (fun p hp => .tail _ (.tail _ hp))
        · with_reducible rename Fr _ _ _ _ => F4
          with_reducible rename News _ _ _ _ => N4
          with_reducible rename ¬ (List.take _ _ = _) => hc
          with_reducible rename (_ : Int) < _ => hlt
          have e2 : ((a : Int) + 2 - a).toNat = 2 := by omega
          rw [e2, Int.toNat_natCast] at hc
          have y1 := mrg_no (s := 256 + i) (by omega : a < R.length) hc
          refine hK₂ _ _ _ (R.length - (a + 1)) F4 (by rw [q3]; exact sub_lt_sub (Int.ofNat_lt.mp hlt) (by decide)) ⟨a + 1, os ++ [R.getD a 0], _, _, _, rfl, by omega, rfl, ?_, ?_, rfl, rfl, rfl, rfl, (N4 _ (.tail _ (.head _))).1, IntsAre_snoc q11 _ _, ?_⟩
          · rw [← q4, y1, List.append_assoc]; rfl
          · simp only [List.length_append, List.length_cons, List.length_nil]; omega
          · exact kept_of hKw (fun b o e hb hL ht => hG3 b o (q12 b o e hb hL) hb hL ht) F4 N4 (fun p hp => .tail _ (.tail _ hp))
        · with_reducible rename Fr _ _ _ _ => F4
          with_reducible rename News _ _ _ _ => N4
          with_reducible rename ¬ ((_ : Int) < _) => hge
          have ea : a = R.length := by omega
          have hkeep := kept_of (L := L) hK2 hG2 F4 N4 (fun p hp => .tail _ (hsub p hp))
          refine hK₁ _ _ _ F4 (fun b o e => hkeep b o (hE2 b o e) (by simp) (fun q => by rw [q, hBL] at e; cases e)) (hkeep _ _ hit (by simp) hitL) ⟨D, .inr hDf, rfl, rfl, ?_, ?_⟩
          · refine ⟨hD.2.2, vo, no, (N4 _ (.head _)).1, ?_⟩
            have e1 : Jto ps xs (i + 1) = mrg l rr (256 + i) R := by rw [Jto, hle, hre, hRe]
            rw [e1, ← q4, ea, List.drop_length, mrg.eq_3, List.append_nil]
            exact q11
          · exact PairsAt.seqs ⟨hT4, vp, np, gp, lp, hip⟩ (hS _ hkeep)
    · refine hK₁ h _ _ F2 hE2 hit ⟨r, h0, rfl, rfl, ?_, ?_⟩
      · with_reducible rename List.any _ _ = _ => ha
        refine ⟨hT3, vr, nr, gr, ?_⟩
        have e1 : Jto ps xs (i + 1) = mrg l rr (256 + i) R := by rw [Jto, hle, hre, hRe]
        rw [e1, mrg_none]
        · exact ir
        · intro hl
          rw [List.any_eq_false] at ha
          exact ha l hl (by simp)
      · exact ⟨hT4, vp, np, gp, lp, hip⟩
  · rintro m h tk ⟨r, h0, h1, h2, h3, h4⟩ hE2 F2
    try dsimp only
    replace F2 := Fr_names [(Str.ofString "row", .ref r)] F2 (by
      intro p hp
      simp only [List.mem_cons, List.not_mem_nil, or_false] at hp
      rcases hp with rfl
      exact h1)
    ktr_unf
    exact hret r h _ hE2 h0 h3
end
end

section
theorem startSpelled : True := by
  w_top off
  trivial
local macro_rules | `(tactic| walk_at "idle") => `(tactic| skip)
set_option maxHeartbeats 1000000
section
local macro_rules | `(tactic| walk_at "call ref") => `(tactic| ((with_reducible rename Fr _ _ _ _ => F9); (with_reducible rename News _ _ _ _ => N9); (first
  | refine nont_call (by assumption) (by assumption) (On.of F9) (by ktr_room) (by ktr_units) ?_
  | refine term_call (by assumption) (by assumption) (On.of F9) (by ktr_room) (by ktr_units) ?_); intro h9 tk9 e9; (replace F9 := Fr.ext F9 e9); (replace N9 := News.ext N9 e9); clear e9))
structure SW (hw : Heap) (L D1 D2 pa : Addr) (ps : List (Int × Int)) (x : Int) (k : Nat) (m' : Str → Option Value) (h' : Heap) (os pl : List Int) (vo : List Value) (no : Nat) (vl : List Value) (nl : Nat) : Prop where
  q1 : m' "octets" = some (.ref D1)
  q2 : m' "pile" = some (.ref D2)
  q3 : m' "pairs" = some (.ref pa)
  q4 : h'.get? D1 = some (listOf (List.toArray vo) no)
  q5 : IntsAre vo os
  q6 : h'.get? D2 = some (listOf (List.toArray vl) nl)
  q7 : IntsAre vl pl
  q8 : os ++ spl ps pl = sp ps x
  q9 : wts ps pl = k
  q10 : k ≤ wt ps x
  q11 : ∀ y ∈ pl, y < 256 + ps.length
  q12 : ∀ b o, hw.get? b = some o → b ∉ [D1, D2] → b ≠ L → h'.get? b = some o
theorem spelled_call {prog : Program} {w : World} {σ : Heap} {σg : Array GenState} {σd : Drawn} {σt : Nat} {σo : OsState} {Q E : Value → Shared → Prop} {p : Program} {loose : List Str} {mean : ExcName → Option Value} {mg mb : Str → Option Value} {hT : Heap}
    {dp un : Nat} {fr : Option (List Env)} {gd : Option (List Code)} {x : Int} {tx : Tok} {pa : Addr} {ps : List (Int × Int)}
    (X : (hd.heap_39 w.params).In hT) (T : Top p loose mean mg mb hT) (hK : On hT σ) (hdp : dp + 60 < recursionLimit) (hun : un + 600 < cLine)
    (hps : PairsAt hT σ pa ps) (hW : WF ps) (hx : x < 256 + ps.length) (hlp : ps.length ≤ 8)
    (hret : ∀ r h' tk', Ext σ h' → σ.get? r = none → LI hT h' r (sp ps x) → Q (.ref r) ⟨h', σg, σd, tk', σo⟩) :
    wpAny (model prog w) { handled := none, depth := dp, frames := fr, guards := gd, units := un } (call (.ref 108) [.int x tx, .ref pa]) Q E ⟨σ, σg, σd, σt, σo⟩ := by
  have hfill : Fill Mine.hd.heap_39 PySem.Challenge.rw_ul0003_01 := by (k_fill; trivial)
  refine' enterG X T hK ?k6 ?k7 ?k8 ?k9 ?kB ?_ ?c2 ?c3 ?c4 ?c5
  (case k6 => k_is); (case k7 => k_is); (case k8 => ktr_room); (case k9 => exact BindsTo.of_eq rfl); (case c5 => decide); (case kB => exact locs rfl); (case c2 => exact rfl); (case c3 => exact rfl); (case c4 => exact rfl)
  intro G L h₁ tk₁ hG hGs hGL hExt hBL F N hE1
  try dsimp only
  ktr_unf
  rename_i D1 _ l1 _ _ D2 _ lt hw Fw Nw
  have hD1 := Nw _ (.tail _ (.head _))
  have hD2 := Nw _ (.head _)
  have hKw := Fw.keep
  have hnL : ∀ a xs n, hw.get? a = some (listOf xs n) → a ≠ L := fun a xs n e => ns_ne Fw e rfl
  have h12 : D1 < D2 := lt.1
  have hf1 := fresh_of hG hD1.2.2 l1
  have hf2 := fresh_of hG hD2.2.2 (of_allLt lt.2)
  have hoff : ∀ b o, σ.get? b = some o → b ∉ [D1, D2] ∧ b ≠ L := fun b o e => by
    refine ⟨fun q => ?_, fun q => by rw [q, hBL] at e; cases e⟩
    simp only [List.mem_cons, List.not_mem_nil, or_false] at q
    rcases q with rfl | rfl
    · rw [hf1] at e; cases e
    · rw [hf2] at e; cases e
  have hw1 : Ext σ hw := hExt _ _ _ Fw Nw (fun p hp => .tail _ (.tail _ hp))
  have hpw := hps.ext hw1
  have hlen : (sp ps x).length ≤ 256 := Nat.le_trans (sp_len_le ps ps.length x hx) (Nat.pow_le_pow_right (by omega) hlp : 2 ^ ps.length ≤ 2 ^ 8)
  have hwx : wt ps x ≤ 512 := by
    have := wt_le ps ps.length x hx
    have := (Nat.pow_le_pow_right (by omega) (by omega) : 2 ^ (ps.length + 1) ≤ 2 ^ 9)
    omega
  refine while_loop (hT := hT) (L := L) (fun k m' h' => ∃ (os pl : List Int) (vo : List Value) (no : Nat) (vl : List Value) (nl : Nat), SW hw L D1 D2 pa ps x k m' h' os pl vo no vl nl) (wt ps x) Fw ?_ ?_
  · refine ⟨[], [x], [], 0, [.int x tx], 0, rfl, rfl, rfl, hD1.1, .nil, hD2.1, .cons _ _ .nil, ?_, ?_, Nat.le_refl _, ?_, fun b o e _ _ => e⟩
    · simp [spl]
    · simp [wts]
    · intro y hy
      rw [List.mem_singleton] at hy
      omega
  · rintro k m' h' tk' ⟨os, pl, vo, no, vl, nl, q1, q2, q3, q4, q5, q6, q7, q8, q9, q10, q11, q12⟩ F3 K₂ hK₂
    obtain ⟨G3, N3, hG3, hG3x, hG3L⟩ := led_all F3 [D1, D2]
    have hne1 : ∀ p ∈ G3, p.1 ≠ D1 := fun p hp => fun e => (hG3x p hp).1 (by rw [e]; exact .head _)
    have hne2 : ∀ p ∈ G3, p.1 ≠ D2 := fun p hp => fun e => (hG3x p hp).1 (by rw [e]; exact .tail _ (.head _))
    have hs3 : ∀ b o, hw.get? b = some o → b ∉ [D1, D2] → b ≠ L → hT.get? b = none → (b, o) ∈ G3 := fun b o e hb hL ht => hG3 b o (q12 b o e hb hL) hb hL ht
    replace N3 := News_cons (News_cons N3 q4 hD1.2.1 hD1.2.2) q6 hD2.2.1 hD2.2.2
    replace F3 := Fr_names [(Str.ofString "octets", .ref D1), (Str.ofString "pile", .ref D2), (Str.ofString "pairs", .ref pa)] F3 (by
      intro p hp
      simp only [List.mem_cons, List.not_mem_nil, or_false] at hp
      rcases hp with rfl | rfl | rfl <;> assumption)
    have hol : os.length ≤ 256 := by
      have := congrArg List.length q8
      rw [List.length_append] at this
      omega
    have hvo := q5.length
    have hvl := q7.length
    have hpl := len_wts ps pl
    clear Nw Fw
    rcases (List.eq_nil_or_concat pl).imp_right (fun ⟨a, b, e⟩ => (⟨a, b, e.trans (List.concat_eq_append ..)⟩ : ∃ a b, pl = a ++ [b])) with rfl | ⟨rest, y, rfl⟩
    · ktr_unf
      with_reducible rename Fr _ _ _ _ => F4
      with_reducible rename News _ _ _ _ => N4
      refine hret D1 _ _ (fun b o e => kept_of hKw hs3 F4 N4 (fun p hp => .tail _ (.tail _ (.tail _ hp))) b o (hw1 b o e) (hoff b o e).1 (hoff b o e).2) hf1 ⟨hD1.2.2, vo, no, (N4 _ (.tail _ (.tail _ (.head _)))).1, ?_⟩
      rw [← q8, spl_nil, List.append_nil]; exact q5
    · by_cases hy : y < 256
      · ktr_unf
        · exfalso
          with_reducible rename decide _ = true => hc
          simp at hc
        · with_reducible rename Fr _ _ _ _ => F4
          with_reducible rename News _ _ _ _ => N4
          with_reducible rename IntsAre _ rest => i4
          refine hK₂ _ _ _ (wts ps rest) F4 ?_ ⟨os ++ [y], rest, _, _, _, _, rfl, rfl, rfl, (N4 _ (.tail _ (.tail _ (.head _)))).1, IntsAre_snoc q5 _ _, (N4 _ (.tail _ (.head _))).1, i4, ?_, rfl, ?_, fun z hz => q11 z (List.mem_append_left _ hz), ?_⟩
          · rw [← q9, wts_snoc, wt_lt ps hy]; omega
          · rw [← q8, spl_snoc, sp_lt ps hy, List.append_assoc]
          · rw [← q9, wts_snoc] at q10; omega
          · exact kept_of hKw hs3 F4 N4 (fun p hp => .tail _ (.tail _ (.tail _ hp)))
      · obtain ⟨kk, rfl⟩ : ∃ kk : Nat, y = 256 + kk := ⟨(y - 256).toNat, by omega⟩
        have hkk : kk < ps.length := by have := q11 (256 + kk) (List.mem_append_right _ (.head _)); omega
        obtain ⟨hT4, vp, np, gp, lp, ip⟩ := id hps
        obtain ⟨b, hb, hT5, vb, nb, gb, ib⟩ := ip kk hkk
        have mp := hs3 _ _ (hw1 _ _ gp) (hoff _ _ gp).1 (hoff _ _ gp).2 hT4
        have mb' := hs3 _ _ (hw1 _ _ gb) (hoff _ _ gb).1 (hoff _ _ gb).2 hT5
        obtain ⟨w1, w2⟩ := hW kk hkk
        have eix : ((256 : Int) + kk - 256).toNat = kk := by omega
        rw [← eix] at hb
        ktr_unf
        · exfalso
          with_reducible rename decide _ = true => hc
          simp at hc
        · with_reducible rename Fr _ _ _ _ => F4
          with_reducible rename News _ _ _ _ => N4
          with_reducible rename IntsAre _ rest => i4
          refine hK₂ _ _ _ (wts ps (rest ++ [(ps.getD kk (0, 0)).2] ++ [(ps.getD kk (0, 0)).1])) F4 ?_ ⟨os, rest ++ [(ps.getD kk (0, 0)).2] ++ [(ps.getD kk (0, 0)).1], _, _, _, _, rfl, rfl, rfl, (N4 _ (.tail _ (.tail _ (.head _)))).1, q5, (N4 _ (.tail _ (.head _))).1, IntsAre_snoc (IntsAre_snoc i4 _ _) _ _, ?_, rfl, ?_, ?_, ?_⟩
          · rw [← q9, wts_snoc, wts_snoc, wts_snoc, wt_at hW hkk]; omega
          · rw [← q8, spl_snoc, spl_snoc, spl_snoc, sp_at hW hkk, List.append_assoc]
          · rw [← q9, wts_snoc, wt_at hW hkk] at q10
            rw [wts_snoc, wts_snoc]; omega
          · intro z hz
            simp only [List.mem_append, List.mem_singleton] at hz
            rcases hz with (hz | rfl) | rfl
            · exact q11 z (List.mem_append_left _ hz)
            · omega
            · omega
          · exact kept_of hKw hs3 F4 N4 (fun p hp => .tail _ (.tail _ (.tail _ hp)))
end
end

section
theorem startStanding : True := by
  w_top off
  trivial
local macro_rules | `(tactic| walk_at "idle") => `(tactic| skip)
set_option maxHeartbeats 1000000
section
local macro_rules | `(tactic| walk_at "call ref") => `(tactic| ((with_reducible rename Fr _ _ _ _ => F9); (with_reducible rename News _ _ _ _ => N9); (refine' spelled_call ?z1 ?z2 ?z3 ?z4 ?z5 ?z6 ?z7 ?z8 ?z9 ?_; (case z1 => assumption); (case z2 => assumption); (case z3 => exact On.of F9); (case z4 => ktr_room); (case z5 => ktr_units); (case z6 => exact PairsIn.at N9 (PairsIn.mono (by assumption) (by (intro p9 hp9; repeat (first | exact hp9 | refine List.Mem.tail _ ?_))))); (case z7 => assumption); (case z8 => assumption); (case z9 => omega)); intro r9 h9 tk9 e9 f9 hr9; (have ne9 := allNe_of (ne_news N9 f9)); (simp only [AllNe] at ne9); (replace F9 := Fr.ext F9 e9); (replace N9 := News.ext N9 e9); (obtain ⟨rT9, rv9, rn9, rg9, ri9⟩ := hr9); (replace N9 := News_cons N9 rg9 (ns_ne F9 rg9 rfl) rT9); clear e9 f9))
local macro_rules | `(tactic| walk_at "call ref") => `(tactic| ((with_reducible rename Fr _ _ _ _ => F9); (with_reducible rename News _ _ _ _ => N9); (refine' joined_call ?z1 ?z2 ?z3 ?z4 ?z5 ?z6 ?z7 ?z8 ?z9 ?_; (case z1 => assumption); (case z2 => assumption); (case z3 => exact On.of F9); (case z4 => ktr_room); (case z5 => ktr_units); (case z6 => exact LI.of_news N9 (by news_mem) (by assumption)); (case z7 => exact PairsIn.at N9 (PairsIn.mono (by assumption) (by (intro p9 hp9; repeat (first | exact hp9 | refine List.Mem.tail _ ?_))))); (case z8 => omega); (case z9 => omega)); intro r9 h9 tk9 e9 f9 hr9; (have ne9 := orNe N9 f9); (simp only [AllNe] at ne9); (replace F9 := Fr.ext F9 e9); (replace N9 := News.ext N9 e9); (obtain ⟨rT9, rv9, rn9, rg9, ri9⟩ := hr9); (replace N9 := News_cons N9 rg9 (ns_ne F9 rg9 rfl) rT9); clear e9 f9))
theorem standing_call {prog : Program} {w : World} {σ : Heap} {σg : Array GenState} {σd : Drawn} {σt : Nat} {σo : OsState} {Q E : Value → Shared → Prop} {p : Program} {loose : List Str} {mean : ExcName → Option Value} {mg mb : Str → Option Value} {hT : Heap}
    {dp un : Nat} {fr : Option (List Env)} {gd : Option (List Code)} {sy pa : Addr} {ps : List (Int × Int)} {syms : List Int}
    (X : (hd.heap_39 w.params).In hT) (T : Top p loose mean mg mb hT) (hK : On hT σ) (hdp : dp + 70 < recursionLimit) (hun : un + 700 < cLine)
    (hsy : LI hT σ sy syms) (hps : PairsAt hT σ pa ps) (hW : WF ps) (hx : ∀ x ∈ syms, x < 256 + (ps.length : Int)) (hlp : ps.length ≤ 8) (hls : syms.length ≤ 100)
    (hret : ∀ r h' tk' vs n, Ext σ h' → σ.get? r = none → hT.get? r = none → h'.get? r = some (listOf (List.toArray vs) n) → StAll hT [] h' vs (stand ps syms) → Q (.ref r) ⟨h', σg, σd, tk', σo⟩) :
    wpAny (model prog w) { handled := none, depth := dp, frames := fr, guards := gd, units := un } (call (.ref 115) [.ref sy, .ref pa]) Q E ⟨σ, σg, σd, σt, σo⟩ := by
  have hfill : Fill Mine.hd.heap_39 PySem.Challenge.rw_ul0003_01 := by (k_fill; trivial)
  refine' enterG X T hK ?k6 ?k7 ?k8 ?k9 ?kB ?_ ?c2 ?c3 ?c4 ?c5
  (case k6 => k_is); (case k7 => k_is); (case k8 => ktr_room); (case k9 => exact BindsTo.of_eq rfl); (case c5 => decide); (case kB => exact locs rfl); (case c2 => exact rfl); (case c3 => exact rfl); (case c4 => exact rfl)
  intro G L h₁ tk₁ hG hGs hGL hExt hBL F N hE1
  try dsimp only
  have hpi := hps.toIn hG
  obtain ⟨hTs, vsy, nsy, gsy, isy⟩ := id hsy
  have ms := hG _ _ gsy hTs
  have hvs := isy.length
  ktr_unf
  rename_i D _ l1 hw Fw Nw
  have hD := Nw _ (.head _)
  have hf1 := fresh_of hG hD.2.2 l1
  have hw1 : Ext σ hw := hExt _ _ _ Fw Nw (fun p hp => .tail _ hp)
  refine for_list (hT := hT) (L := L) σ rfl (fun i m' h' => ∃ vo no, m' "out" = some (.ref D) ∧ m' "pairs" = some (.ref pa) ∧ h'.get? D = some (listOf (List.toArray vo) no) ∧ StAll hT [D] h' vo (stand ps (syms.take i))) sy nsy vsy hBL ?_ ?_ ?_ ?_
  · rintro i m h h' ⟨vo, no, q1, q2, q3, q4⟩ k
    exact ⟨vo, no, q1, q2, k _ _ ⟨_, _, rfl⟩ q3, q4.keep (fun b o hd _ e => k b o hd e) (fun _ h => h)⟩
  · ktr_unf
    with_reducible rename Fr _ _ _ _ => F4
    with_reducible rename News _ _ _ _ => N4
    exact ListAt.intro (hw1 _ _ gsy) F4 (hExt _ _ _ F4 N4 (fun p hp => .tail _ hp)) ⟨[], 0, rfl, rfl, hD.1, .nil⟩
  · rintro i v m h tk it oit hv ⟨vo, no, q1, q2, q3, q4⟩ eB F3 hit hitf hitT hitL ha K₁ hK₁
    obtain ⟨G3, N3, hs3, hG3, hne, hk3, hE3⟩ := turn_led F3 eB hGs hBL [D] (fun b hb => by rw [List.mem_singleton.mp hb]; exact hf1)
    obtain ⟨y, t, rfl, hy⟩ : ∃ y t, v = .int y t ∧ syms[i]? = some y := by
      obtain ⟨y, hy⟩ : ∃ y, syms[i]? = some y := by
        have := (List.getElem?_eq_some_iff.mp hv).1
        exact ⟨syms[i], by simp⟩
      obtain ⟨t, ht⟩ := isy.get i y hy
      exact ⟨y, t, by rw [hv] at ht; exact Option.some.inj ht, hy⟩
    have hyx := hx y (List.mem_of_getElem? hy)
    have hneD : ∀ p ∈ G3, p.1 ≠ D := fun p hp e => hne p hp (by rw [e]; exact .head _)
    replace N3 := News_cons N3 q3 hD.2.1 hD.2.2
    replace hpi := hpi.mono hs3
    replace F3 := Fr_names [(Str.ofString "out", .ref D), (Str.ofString "pairs", .ref pa)] F3 (by
      intro p hp
      simp only [List.mem_cons, List.not_mem_nil, or_false] at hp
      rcases hp with rfl | rfl <;> assumption)
    have hsl : (sp ps y).length ≤ 256 := Nat.le_trans (sp_len_le ps ps.length y hyx) (Nat.pow_le_pow_right (by omega) hlp : 2 ^ ps.length ≤ 2 ^ 8)
    have hvo := q4.length
    have hsl2 := stand_len ps (syms.take i)
    have hsl3 : (syms.take i).length ≤ syms.length := by rw [List.length_take]; omega
    have hitD : @Ne Nat it D := fun q => by
      obtain ⟨_, hf⟩ := hitf
      have q' : it = D := q
      rw [q', q3] at hit; cases hit; cases hf
    have hsyD : @Ne Nat sy D := fun q => by
      have q' : sy = D := q
      rw [q', hf1] at gsy; cases gsy
    have hsyL : sy ≠ L := fun q => by rw [q, hBL] at gsy; cases gsy
    have hst : stand ps (syms.take (i + 1)) = stand ps (syms.take i) ++ (if Jn ps (sp ps y) = [y] then [(y, sp ps y)] else []) := by
      rw [List.take_add_one, hy]; exact stand_snoc _ _ _
    have hnL : ∀ b o, (∃ xs n, o.data = .seq xs n) → h.get? b = some o → b ≠ L := fun b o ⟨_, _, hd⟩ e => ns_ne F3 e hd
    have hS4 : ∀ h', (∀ b o, h.get? b = some o → b ∉ [D] → b ≠ L → h'.get? b = some o) → StAll hT [D] h' vo (stand ps (syms.take i)) := fun h' k => q4.keep (fun b o hd hb e => k b o e hb (hnL b o hd e)) (fun _ h => h)
    clear Nw Fw
    ktr_unf
    · with_reducible rename Fr _ _ _ _ => F4
      with_reducible rename News _ _ _ _ => N4
      with_reducible rename Jn _ _ = _ => hc
      with_reducible rename IntsAre _ (sp ps y) => i4
      have hE4 := hE3 _ _ _ F4 N4 (fun p hp => List.Mem.tail _ (List.Mem.tail _ (List.Mem.tail _ (List.Mem.tail _ (List.Mem.tail _ hp)))))
      have hkk := hk3 _ _ _ F4 N4 (fun p hp => List.Mem.tail _ (List.Mem.tail _ (List.Mem.tail _ (List.Mem.tail _ (List.Mem.tail _ hp)))))
      refine hK₁ _ _ _ F4 hE4 (hkk _ _ hit (notin1 hitD) hitL) (hkk _ _ ha (notin1 hsyD) hsyL) ⟨_, _, rfl, rfl, (N4 _ (.tail _ (.tail _ (.tail _ (.tail _ (.head _)))))).1, ?_⟩
      rw [hst, if_pos hc]
      refine StAll.snoc (hS4 _ hkk) (N4 _ (.head _)).2.2 (notin1 (by k_ne)) (N4 _ (.head _)).1 (LI.of_news N4 (.tail _ (.tail _ (.tail _ (.head _)))) i4) (notin1 (by k_ne))
    · with_reducible rename Fr _ _ _ _ => F4
      with_reducible rename News _ _ _ _ => N4
      with_reducible rename ¬ Jn _ _ = _ => hc
      have hE4 := hE3 _ _ _ F4 N4 (fun p hp => List.Mem.tail _ (List.Mem.tail _ (List.Mem.tail _ (List.Mem.tail _ hp))))
      have hkk := hk3 _ _ _ F4 N4 (fun p hp => List.Mem.tail _ (List.Mem.tail _ (List.Mem.tail _ (List.Mem.tail _ hp))))
      refine hK₁ _ _ _ F4 hE4 (hkk _ _ hit (notin1 hitD) hitL) (hkk _ _ ha (notin1 hsyD) hsyL) ⟨_, _, rfl, rfl, (N4 _ (.tail _ (.tail _ (.tail _ (.head _))))).1, ?_⟩
      rw [hst, if_neg hc, List.append_nil]
      exact hS4 _ hkk
  · rintro m h tk ⟨vo, no, q1, q2, q3, q4⟩ eB F3
    try dsimp only
    replace F3 := Fr_names [(Str.ofString "out", .ref D)] F3 (by
      intro p hp
      simp only [List.mem_cons, List.not_mem_nil, or_false] at hp
      rcases hp with rfl
      exact q1)
    ktr_unf
    rw [hvs, List.take_length] at q4
    exact hret D h _ vo no eB hf1 hD.2.2 q3 (q4.keep (fun b o _ _ e => e) (fun _ h => by cases h))
end
end

section
theorem startDigs : True := by
  w_top off
  trivial
set_option maxHeartbeats 1000000
theorem half_sum {lo mid hi : Nat} (a : lo < mid) (b : mid < hi) : hi - lo = (mid - lo) + (hi - mid) := by
  rw [Nat.add_comm]; exact (Nat.sub_add_sub_cancel (Nat.le_of_lt b) (Nat.le_of_lt a)).symm
theorem half_hi {lo mid hi k : Nat} (h : hi - lo ≤ k + 1) (a : lo < mid) : hi - mid ≤ k :=
  Nat.le_trans (Nat.sub_le_sub_left (show lo + 1 ≤ mid from a) hi) (by rw [← Nat.sub_sub]; exact Nat.sub_le_of_le_add h)
theorem half_lo {lo mid hi k : Nat} (h : hi - lo ≤ k + 1) (a : mid < hi) (b : lo < mid) : mid - lo ≤ k :=
  Nat.le_of_lt_succ (Nat.lt_of_lt_of_le (Nat.sub_lt_sub_right (Nat.le_of_lt b) a) h)
theorem dep_le {d k n : Nat} (h : d + (k + 1) + 60 < n) : d + 1 + k + 60 < n := by
  rw [Nat.add_assoc d 1 k, Nat.add_comm 1 k]; exact h
theorem un_le {d k n : Nat} (h : d + 4 * (k + 1) + 600 < n) : d + 3 + 4 * k + 600 < n := by omega
section
abbrev q58 : Str := Str.ofString "_digits2int.<locals>.inner"
abbrev pos58 : Pos := ⟨56, 4, 61, 55⟩
theorem d2i_call {prog : Program} {w : World} {σ : Heap} {σg : Array GenState} {σd : Drawn} {σt : Nat} {σo : OsState} {Q E : Value → Shared → Prop} {p : Program} {loose : List Str} {mean : ExcName → Option Value} {mg mb : Str → Option Value} {hT : Heap}
    {dp un : Nat} {fr : Option (List Env)} {gd : Option (List Code)} {dg : Addr} {xs : List Int} {n : Nat} {tn : Tok}
    (X : (hd.heap_39 w.params).In hT) (T : Top p loose mean mg mb hT) (hK : On hT σ) (hdp : dp + 200 < recursionLimit) (hun : un + 1000 < cLine)
    (hxs : LI hT σ dg xs) (hlen : xs.length ≤ 64) (hn : n ≤ 64) (hdig : ∀ x ∈ xs, 0 ≤ x ∧ x < 2 ^ n)
    (C : CodeHd hT 62 58) (htab : Tab hT σ 58 q58 pos58)
    (hret : ∀ t h' tk', (∀ b o, b ≠ 58 → σ.get? b = some o → h'.get? b = some o) → Tab hT h' 58 q58 pos58 → Q (.int (dval (2 ^ n) xs) t) ⟨h', σg, σd, tk', σo⟩) :
    wpAny (model prog w) { handled := none, depth := dp, frames := fr, guards := gd, units := un } (call (.ref 63) [.ref dg, .int n tn]) Q E ⟨σ, σg, σd, σt, σo⟩ := by
  have hfill : Fill Mine.hd.heap_39 PySem.Challenge.rw_ul0003_01 := by (k_fill; trivial)
  refine' enterC X T hK ?k6 ?k7 ?k8 ?k9 ?kB ?kD ?_ ?c2 ?c3 ?c4
  (case k6 => k_is); (case k7 => k_is); (case k8 => ktr_room); (case k9 => exact BindsTo.of_eq rfl); (case kB => exact rfl); (case kD => decide +kernel); (case c2 => exact rfl); (case c3 => exact rfl); (case c4 => exact rfl)
  intro G L h₁ tk₁ cells LO F N Y hE1
  obtain ⟨o1, o2, o3, hE, d1, d2, d3⟩ := CellsAre.three Y
  subst hE
  clear Y
  replace d1 : o1.data = .cell none := d1
  replace d2 : o2.data = .cell (some (.int n tn)) := d2
  replace d3 : o3.data = .cell (some (.ref dg)) := d3
  obtain ⟨hT8, ps8, g8, f8⟩ := id htab
  have m8 := LO.into _ _ g8 hT8
  have l8 : @LT.lt Nat _ 58 L := LO.under _ m8
  obtain ⟨G', N', hG8, hGs, hGb⟩ := News_at N m8
  try simp only [List.cons_append, List.nil_append] at N'
  clear N
  refine wpAny_execs_cons (nestDef_K rfl rfl rfl ?_)
  refine' nest_any F N' T C rfl ?zU ?zf rfl ?_
  (case zU => k_updF)
  · rcases f8 with rfl | ⟨c', oc, vs, t, e1, e2, e3, e4, e5⟩
    · exact .inl rfl
    · refine .inr ⟨c', oc, vs, t, e1, ?_, e4, e5⟩
      refine .tail _ (.tail _ (.tail _ (.tail _ (hGb _ (LO.into _ _ e2 e3) ?_))))
      rintro rfl
      rw [g8] at e2; cases e2; cases e4
      subst e1
      simp at e5
      cases e5
  intro f c' oc vs t ctv doc h2 tk2 F2 N2 hd hv lf
  try dsimp only at N2
  have hF := (N2 _ (.head _)).1
  have hCR : h2.CodeRec (.ref c') q58 := ⟨c', oc, vs, t, rfl, (N2 _ (.tail _ (.head _))).1, hd, hv⟩
  have hcc : ∀ b o v, (b, o) ∈ (L + 1 + 1 + 1, o1) :: (L + 1 + 1, o2) :: (L + 1, o3) :: ([] : List (Addr × Obj)) → o.data = .cell v → @Ne Nat c' b := fun b o v hb ho q => by
    have a1 := (N2 _ (.tail _ (.head _))).1
    have a2 := (N2 (b, o) (.tail _ (.tail _ (by
      rcases List.mem_cons.mp hb with hb | hb
      · rw [hb]; exact .head _
      · rcases List.mem_cons.mp hb with hb | hb
        · rw [hb]; exact .tail _ (.head _)
        · rw [List.mem_singleton.mp hb]; exact .tail _ (.tail _ (.head _)))))).1
    dsimp only at a1 a2
    rw [show c' = b from q, a2] at a1
    cases a1
    rw [hd] at ho; cases ho
  have n1 := hcc _ _ _ (.head _) d1
  have n2 := hcc _ _ _ (.tail _ (.head _)) d2
  have n3 := hcc _ _ _ (.tail _ (.tail _ (.head _))) d3
  k_lt lf
  clear hcc N'
  have hGc : ∀ k, ∀ p ∈ G', p.1 ≠ L + k := fun k p hp => Nat.ne_of_lt (Nat.lt_of_lt_of_le (LO.under _ (hGs p hp)) (Nat.le_add_right _ _))
  have hG3 : ∀ p ∈ G', p.1 ≠ L + 1 + 1 + 1 := hGc 3
  walk1
  with_reducible rename Fr _ _ _ _ => F3
  with_reducible rename News _ _ _ _ => N3
  rename_i h3 o1' dd1
  have m1 : hT.get? (L + 1 + 1 + 1) = none := (N3 _ (.tail _ (.tail _ (.head _)))).2.2
  have m2 : hT.get? (L + 1 + 1) = none := (N3 _ (.tail _ (.tail _ (.tail _ (.head _))))).2.2
  have m3 : hT.get? (L + 1) = none := (N3 _ (.tail _ (.tail _ (.tail _ (.tail _ (.head _)))))).2.2
  have mf : hT.get? f = none := (N3 _ (.head _)).2.2
  have inner : ∀ (k lo hi dp' un' : Nat) (fr' : Option (List Env)) (gd' : Option (List Code)) (τ : Heap) (τg : Array GenState) (τd : Drawn) (τt : Nat) (τo : OsState) (tl th : Tok) (Q' E' : Value → Shared → Prop), hi - lo ≤ k → lo < hi → hi ≤ xs.length → dp' + k + 60 < recursionLimit → un' + 4 * k + 600 < cLine → On hT τ →
      (∀ o, h2.get? f = some o → τ.get? f = some o) → τ.CodeRec (.ref c') q58 → (∃ o, τ.get? (L + 1 + 1 + 1) = some o ∧ o.data = .cell (some (.ref f))) → (∃ o, τ.get? (L + 1 + 1) = some o ∧ o.data = .cell (some (.int n tn))) →
      (∃ o, τ.get? (L + 1) = some o ∧ o.data = .cell (some (.ref dg))) → LI hT τ dg xs →
      (∀ t h' tk', Ext τ h' → Q' (.int (dval (2 ^ n) (seg xs lo hi)) t) ⟨h', τg, τd, tk', τo⟩) →
      wpAny (model prog w) { handled := none, depth := dp', frames := fr', guards := gd', units := un' } (call (.ref f) [.int lo tl, .int hi th]) Q' E' ⟨τ, τg, τd, τt, τo⟩ := by
    intro k
    induction k with
    | zero => intros; exfalso; omega
    | succ k ih =>
      intro lo hi dp' un' fr' gd' τ τg τd τt τo tl th Q' E' hk hlo hhi hd' hu' hO hf hcr hc1 hc2 hc3 hli hret'
      refine' enterF T hO (hf _ hF) rfl hcr ?k8 ?k9 ?kB ?_ ?c2 ?c3 ?c4 ?c5
      (case k8 => ktr_room); (case k9 => exact BindsTo.of_eq rfl); (case kB => exact locs rfl); (case c2 => exact rfl); (case c3 => exact rfl); (case c4 => exact rfl); (case c5 => decide)
      intro G4 L4 h4 tk4 LO4 F4 N4 hE4
      obtain ⟨oa, ga, da⟩ := hc1
      obtain ⟨ob, gb, db⟩ := hc2
      obtain ⟨oc', gc, dc⟩ := hc3
      have ma := LO4.into _ _ ga m1
      have mb := LO4.into _ _ gb m2
      have mc := LO4.into _ _ gc m3
      have mff := LO4.into _ _ (hf _ hF) mf
      obtain ⟨hTd, vd, nd, gd4, idg⟩ := id hli
      have md := LO4.into _ _ gd4 hTd
      have hvd := idg.length
      clear F3 N3
      ktr_unf
      · with_reducible rename (_ : Int) = _ => hc
        have e1 : hi = lo + 1 := by omega
        subst e1
        rw [seg_one (by omega)] at hret'
        have := hret'
        simp only [dval, Int.mul_zero, Int.add_zero] at this
        exact this _ h4 _ hE4
      · with_reducible rename (_ : Int) ≠ _ => hc
        with_reducible rename Fr _ _ _ _ => F5
        with_reducible rename News _ _ _ _ => N5
        have hmid : ((lo : Int) + hi).fdiv (2 ^ Int.toNat 1) = (((lo + hi) / 2 : Nat) : Int) := by
          rw [show (2 : Int) ^ Int.toNat 1 = 2 from rfl, Int.fdiv_eq_ediv_of_nonneg _ (by decide)]
          omega
        rw [hmid] at F5 ⊢
        have hm1 : lo < (lo + hi) / 2 := by omega
        have hm2 : (lo + hi) / 2 < hi := by omega
        generalize (lo + hi) / 2 = mid at *
        have hE5 := LO4.ext hO F5 N5 (fun q h => h)
        have hsh0 : 0 ≤ ((mid : Int) - lo) * n := Int.mul_nonneg (by omega) (by omega)
        have hsh1 : ((mid : Int) - lo) * n ≤ 10000 := by
          have h1 : ((mid : Int) - lo) * n ≤ 64 * n := Int.mul_le_mul_of_nonneg_right (by omega) (by omega)
          omega
        have hshn : (((mid : Int) - lo) * n).toNat = n * (mid - lo) := by
          have : ((mid : Int) - lo) * n = ((n * (mid - lo) : Nat) : Int) := by
            rw [Int.natCast_mul, Int.mul_comm, Int.natCast_sub (by omega)]
          rw [this, Int.toNat_natCast]
        have hend : dval (2 ^ n) (seg xs mid hi) * 2 ^ (((mid : Int) - lo) * n).toNat + dval (2 ^ n) (seg xs lo mid) = dval (2 ^ n) (seg xs lo hi) := by
          rw [seg_split (xs := xs) (lo := lo) (mid := mid) (hi := hi) (by omega) (by omega), dval_append, seg_length (by omega) (by omega), hshn, Int.pow_mul, Int.mul_comm, Int.add_comm]
        refine' ih mid hi _ _ _ _ _ _ _ _ _ _ _ _ _ ?y1 ?y2 ?y3 ?y4 ?y5 ?y6 ?y7 ?y8 ?y9 ?y10 ?y11 ?y12 ?_
        (case y1 => exact half_hi hk hm1); (case y2 => omega); (case y3 => omega)
        (case y4 => exact dep_le hd')
        (case y5 => exact un_le hu')
        (case y6 => exact On.of F5)
        (case y7 => exact fun o e => hE5 _ _ (hf o e))
        (case y8 => exact hcr.keeps hE5)
        (case y9 => exact ⟨oa, hE5 _ _ ga, da⟩)
        (case y10 => exact ⟨ob, hE5 _ _ gb, db⟩)
        (case y11 => exact ⟨oc', hE5 _ _ gc, dc⟩)
        (case y12 => exact hli.ext hE5)
        intro t6 h6 tk6 e6
        replace F5 := Fr.ext F5 e6
        replace N5 := News.ext N5 e6
        walk1
        refine shl_call rfl (bits_dval (fun x hx => hdig x (seg_mem x hx)) hn ?_) hsh0 hsh1 ?_
        · rw [seg_length (by omega) (by omega)]; omega
        intro t7 tk7
        try dsimp only
        ktr_unf
        with_reducible rename Fr _ _ _ _ => F8
        with_reducible rename News _ _ _ _ => N8
        have hE8 := LO4.ext hO F8 N8 (fun q h => h)
        refine' ih lo mid _ _ _ _ _ _ _ _ _ _ _ _ _ ?y1 ?y2 ?y3 ?y4 ?y5 ?y6 ?y7 ?y8 ?y9 ?y10 ?y11 ?y12 ?_
        (case y1 => exact half_lo hk hm2 hm1); (case y2 => omega); (case y3 => omega)
        (case y4 => exact dep_le hd')
        (case y5 => exact un_le hu')
        (case y6 => exact On.of F8)
        (case y7 => exact fun o e => hE8 _ _ (hf o e))
        (case y8 => exact hcr.keeps hE8)
        (case y9 => exact ⟨oa, hE8 _ _ ga, da⟩)
        (case y10 => exact ⟨ob, hE8 _ _ gb, db⟩)
        (case y11 => exact ⟨oc', hE8 _ _ gc, dc⟩)
        (case y12 => exact hli.ext hE8)
        intro t9 h9 tk9 e9
        replace F8 := Fr.ext F8 e9
        replace N8 := News.ext N8 e9
        ktr_unf
        rw [hend]
        exact hret' _ _ _ (LO4.ext hO F8 N8 (fun q h => h))
  obtain ⟨hTd, vd, nd, gd0, idg⟩ := id hxs
  have md0 := LO.into _ _ gd0 hTd
  have md := hGb _ md0 (fun q => by
    have q' : dg = 58 := q
    rw [q', g8] at gd0; cases gd0)
  have hvd := idg.length
  have hend : ∀ h' m' led, Fr hT L h' m' → News hT L h' led → (∀ q ∈ (c', oc) :: (58, tabObj #[rawInt pos58.line, rawInt pos58.col, .ref c']) :: G', q ∈ led) → (∀ b o, b ≠ 58 → σ.get? b = some o → h'.get? b = some o) ∧ Tab hT h' 58 q58 pos58 := by
    intro h' m' led F' N' hs
    refine ⟨fun b o hb e => ?_, hT8, _, (N' _ (hs _ (.tail _ (.head _)))).1, .inr ⟨c', oc, vs, t, rfl, (N' _ (hs _ (.head _))).1, (N' _ (hs _ (.head _))).2.2, hd, hv⟩⟩
    cases q : hT.get? b with
    | some o' =>
      have := hK.keep b o' q
      rw [e] at this; cases this
      exact F'.keep b o q
    | none => exact (N' _ (hs _ (.tail _ (.tail _ (hGb _ (LO.into b o e q) hb))))).1
  have hsubG : ∀ q ∈ (c', oc) :: (58, tabObj #[rawInt pos58.line, rawInt pos58.col, .ref c']) :: G', ∀ (a1 a2 a3 a4 : Addr × Obj), q ∈ a1 :: (c', oc) :: a2 :: a3 :: a4 :: (58, tabObj #[rawInt pos58.line, rawInt pos58.col, .ref c']) :: G' := fun q hq a1 a2 a3 a4 => by
    rcases List.mem_cons.mp hq with rfl | hq
    · exact .tail _ (.head _)
    · exact .tail _ (.tail _ (.tail _ (.tail _ (.tail _ hq))))
  obtain ⟨k3, tb3⟩ := hend _ _ _ F3 N3 (fun q hq => hsubG q hq _ _ _ _)
  have hli3 : LI hT h3 dg xs := ⟨hTd, vd, nd, k3 _ _ (fun q => by rw [q, g8] at gd0; cases gd0) gd0, idg⟩
  have hcr3 : h3.CodeRec (.ref c') q58 := ⟨c', oc, vs, t, rfl, (N3 _ (.tail _ (.head _))).1, hd, hv⟩
  have hf3 : ∀ o, h2.get? f = some o → h3.get? f = some o := fun o e => by
    rw [hF] at e
    cases e
    exact (N3 _ (.head _)).1
  have hO3 : On hT h3 := On.of F3
  have hcells := And.intro (N3 _ (.tail _ (.tail _ (.head _)))).1 (And.intro (N3 _ (.tail _ (.tail _ (.tail _ (.head _))))).1 (N3 _ (.tail _ (.tail _ (.tail _ (.tail _ (.head _)))))).1)
  ktr_unf
  · with_reducible rename 0 < _ => hpos
    refine' inner xs.length 0 xs.length _ _ _ _ _ _ _ _ _ _ _ _ _ ?y1 ?y2 ?y3 ?y4 ?y5 ?y6 ?y7 ?y8 ?y9 ?y10 ?y11 ?y12 ?_
    (case y1 => omega); (case y2 => exact hpos); (case y3 => omega)
    (case y4 => (show dp + 1 + xs.length + 60 < _; omega))
    (case y5 => (show un + 3 + 4 * xs.length + 600 < _; omega))
    (case y6 => exact hO3)
    (case y7 => exact hf3)
    (case y8 => exact hcr3)
    (case y9 => exact ⟨_, hcells.1, dd1⟩)
    (case y10 => exact ⟨_, hcells.2.1, d2⟩)
    (case y11 => exact ⟨_, hcells.2.2, d3⟩)
    (case y12 => exact hli3)
    intro t6 h6 tk6 e6
    rw [seg_all]
    obtain ⟨k6, tb6⟩ := hend _ _ _ (Fr.ext F3 e6) (News.ext N3 e6) (fun q hq => hsubG q hq _ _ _ _)
    exact hret t6 h6 tk6 k6 tb6
  · with_reducible rename ¬ 0 < _ => hneg
    have e0 : xs = [] := List.length_eq_zero_iff.mp (by omega)
    subst e0
    exact hret _ h3 _ k3 tb3
end
end

section
theorem startI2d : True := by
  w_top off
  trivial
set_option maxHeartbeats 1000000
theorem nat_and_hi (x s : Nat) : x &&& (x / 2 ^ s * 2 ^ s) = x / 2 ^ s * 2 ^ s := by
  apply Nat.eq_of_testBit_eq
  intro i
  rw [Nat.testBit_and, ← Nat.shiftRight_eq_div_pow, ← Nat.shiftLeft_eq, Nat.testBit_shiftLeft, Nat.testBit_shiftRight]
  by_cases h : s ≤ i
  · have e : s + (i - s) = i := by omega
    rw [e]; simp [h]
  · simp [h]
theorem xor_low {x : Int} (h0 : 0 ≤ x) (s : Nat) : Builtin.bitXor x (x.fdiv (2 ^ s) * 2 ^ s) = x % 2 ^ s := by
  have hp : (0 : Int) < 2 ^ s := Int.pow_pos (by decide)
  rw [Int.fdiv_eq_ediv_of_nonneg _ (Int.le_of_lt hp)]
  obtain ⟨n, rfl⟩ := Int.eq_ofNat_of_zero_le h0
  have e : ((n : Int) / 2 ^ s) * 2 ^ s = ((n / 2 ^ s * 2 ^ s : Nat) : Int) := by push_cast; rfl
  rw [e, bitXor_and, bitAnd_pp (by omega) (by omega), Int.toNat_natCast, Int.toNat_natCast, nat_and_hi, ← e]
  have := Int.emod_add_mul_ediv (n : Int) (2 ^ s)
  rw [Int.mul_comm] at this
  omega
/-- a bound that no search is to open -/
structure LtP (x : Int) (n k : Nat) : Prop where
  out : x < (2 ^ n) ^ k
section
local macro_rules | `(tactic| ktr_unf) => `(tactic| repeat' (first
  | (refine' nameX_F ?zN ?zc ?zm ?zd ?_ ?za ?zb; (case za => rfl); (case zb => rfl); (case zN => assumption); (case zc => rfl); (case zm => news_mem); (case zd => assumption))
  | (refine' nameX_C ?zN ?zc ?zm ?zd ?_ ?za ?zb; (case za => rfl); (case zb => rfl); (case zN => assumption); (case zc => rfl); (case zm => news_mem); (case zd => assumption))
  | ((fail_if_success (with_reducible show wpAny _ _ (exec (Stmt.While _ _ _ _) _) _ _ _)); (fail_if_success (with_reducible show wpAny _ _ (exec (Stmt.For _ _ _ _ _) _) _ _ _)); (fail_if_success (with_reducible show wpAny _ _ (eval (Expr.Name "a_digits" _) _) _ _ _)); (first | walk1 | (dsimp only; walk1)))))
local macro_rules | `(tactic| walk_at "binaryOp RShift int int") => `(tactic| (refine rshift_int (by first | assumption | decide) ?_))
local macro_rules | `(tactic| walk_at "binaryOp LShift int int") => `(tactic| (refine shl_call rfl (by assumption) (by assumption) (by assumption) ?_; intro _ _))
abbrev q51 : Str := Str.ofString "_int2digits.<locals>.inner"
abbrev pos51 : Pos := ⟨41, 4, 50, 28⟩
theorem i2d_call {prog : Program} {w : World} {σ : Heap} {σg : Array GenState} {σd : Drawn} {σt : Nat} {σo : OsState} {Q E : Value → Shared → Prop} {p : Program} {loose : List Str} {mean : ExcName → Option Value} {mg mb : Str → Option Value} {hT : Heap}
    {dp un : Nat} {fr : Option (List Env)} {gd : Option (List Code)} {a : Int} {n : Nat} {ta tn : Tok}
    (X : (hd.heap_39 w.params).In hT) (T : Top p loose mean mg mb hT) (hK : On hT σ) (hdp : dp + 200 < recursionLimit) (hun : un + 1200 < cLine)
    (ha : 0 ≤ a) (hn1 : 1 ≤ n) (hn : n ≤ 64) (hbits : Builtin.Int.intBits a ≤ 100)
    (C : CodeHd hT 55 51) (htab : Tab hT σ 51 q51 pos51)
    (hret : ∀ r h' tk', (∀ b o, b ≠ 51 → σ.get? b = some o → h'.get? b = some o) → Tab hT h' 51 q51 pos51 → σ.get? r = none → LI hT h' r (dgs (2 ^ n) ((Builtin.Int.intBits a + n - 1) / n) a) → Q (.ref r) ⟨h', σg, σd, tk', σo⟩) :
    wpAny (model prog w) { handled := none, depth := dp, frames := fr, guards := gd, units := un } (call (.ref 56) [.int a ta, .int n tn]) Q E ⟨σ, σg, σd, σt, σo⟩ := by
  have hfill : Fill Mine.hd.heap_39 PySem.Challenge.rw_ul0003_01 := by (k_fill; trivial)
  refine' enterC X T hK ?k6 ?k7 ?k8 ?k9 ?kB ?kD ?_ ?c2 ?c3 ?c4
  (case k6 => k_is); (case k7 => k_is); (case k8 => ktr_room); (case k9 => exact BindsTo.of_eq rfl); (case kB => exact rfl); (case kD => decide +kernel); (case c2 => exact rfl); (case c3 => exact rfl); (case c4 => exact rfl)
  intro G L h₁ tk₁ cells LO F N Y hE1
  try dsimp only
  obtain ⟨o1, o2, o3, hE, d1, d2, d3⟩ := CellsAre.three Y
  subst hE
  clear Y
  replace d1 : o1.data = .cell none := d1
  replace d2 : o2.data = .cell none := d2
  replace d3 : o3.data = .cell (some (.int n tn)) := d3
  obtain ⟨hT8, ps8, g8, f8⟩ := id htab
  have m8 := LO.into _ _ g8 hT8
  have l8 : @LT.lt Nat _ 51 L := LO.under _ m8
  obtain ⟨G', N', hG8, hGs, hGb⟩ := News_at N m8
  try simp only [List.cons_append, List.nil_append] at N'
  clear N
  have hGc : ∀ k, ∀ p ∈ G', p.1 ≠ L + k := fun k p hp => Nat.ne_of_lt (Nat.lt_of_lt_of_le (LO.under _ (hGs p hp)) (Nat.le_add_right _ _))
  have hG1 : ∀ p ∈ G', p.1 ≠ L + 1 := hGc 1
  have hG2 : ∀ p ∈ G', p.1 ≠ L + 1 + 1 := hGc 2
  have hG3 : ∀ p ∈ G', p.1 ≠ L + 1 + 1 + 1 := hGc 3
  have hkn : (((Builtin.Int.intBits a : Nat) : Int) + n - 1).fdiv n = (((Builtin.Int.intBits a + n - 1) / n : Nat) : Int) := by
    rw [Int.fdiv_eq_ediv_of_nonneg _ (by omega)]
    have : ((Builtin.Int.intBits a : Nat) : Int) + n - 1 = ((Builtin.Int.intBits a + n - 1 : Nat) : Int) := by omega
    rw [this]; rfl
  have hk0 : a = 0 → (Builtin.Int.intBits a + n - 1) / n = 0 := by
    rintro rfl
    have e : Builtin.Int.intBits 0 = 0 := rfl
    rw [e]
    exact Nat.div_eq_of_lt (by omega)
  have hkb : (Builtin.Int.intBits a + n - 1) / n ≤ 100 ∧ Builtin.Int.intBits a ≤ n * ((Builtin.Int.intBits a + n - 1) / n) := by
    have h1 := Nat.div_add_mod (Builtin.Int.intBits a + n - 1) n
    have h2 := Nat.mod_lt (Builtin.Int.intBits a + n - 1) (by omega : n > 0)
    refine ⟨?_, by omega⟩
    rw [← Nat.lt_succ_iff, Nat.div_lt_iff_lt_mul (by omega)]
    have h3 : 101 * 1 ≤ 101 * n := Nat.mul_le_mul_left _ hn1
    have h4 : (101 - 1) * n + n = 101 * n := by omega
    omega
  have hab : LtP a n ((Builtin.Int.intBits a + n - 1) / n) := by
    constructor
    rw [← Int.pow_mul]
    have h1 := intBits_le_iff.mp hkb.2
    have h3 : (a.natAbs : Int) = a := Int.natAbs_of_nonneg ha
    have h4 : ((2 ^ (n * ((Builtin.Int.intBits a + n - 1) / n)) : Nat) : Int) = (2 : Int) ^ (n * ((Builtin.Int.intBits a + n - 1) / n)) := by push_cast; rfl
    omega
  obtain ⟨hkb, -⟩ := hkb
  (repeat' (first | (((fail_if_success (with_reducible show wpAny _ _ (exec (Stmt.While _ _ _ _) _) _ _ _)); (fail_if_success (with_reducible show wpAny _ _ (exec (Stmt.For _ _ _ _ _) _) _ _ _)); (fail_if_success (with_reducible show wpAny _ _ (binaryOp Operator.Mult (Value.ref _) _) _ _ _)); (first | walk1 | (dsimp only; walk1))))))
  rw [hkn]
  generalize (Builtin.Int.intBits a + n - 1) / n = kN at *
  iterate 4 walk1
  rename_i Dl hx1 lD hx2 o2' FD ND dd2
  have mD : hT.get? Dl = none := (ND _ (.head _)).2.2
  have hDL : Dl ≠ L := (ND _ (.head _)).2.1
  have lD51 : ∀ p ∈ G', p.1 ≠ Dl := fun p hp => Nat.ne_of_lt (of_allLt lD.2.2.2.2.2 p hp)
  refine nestDef_K rfl rfl rfl ?_
  refine' nest_any FD ND T C rfl ?zU ?zf rfl ?_
  (case zU => k_updF)
  · rcases f8 with rfl | ⟨c', oc, vs, t, e1, e2, e3, e4, e5⟩
    · exact .inl rfl
    · refine .inr ⟨c', oc, vs, t, e1, ?_, e4, e5⟩
      refine .tail _ (.tail _ (.tail _ (.tail _ (.tail _ (.tail _ (hGb _ (LO.into _ _ e2 e3) ?_))))))
      rintro rfl
      rw [g8] at e2; cases e2; cases e4
      subst e1
      simp at e5
      cases e5
  intro f c' oc vs t ctv doc h2 tk2 F2 N2 hd hv lf
  try dsimp only at N2
  have hF := (N2 _ (.head _)).1
  have n1 := ne_data N2 (.tail _ (.head _)) (.tail _ (.tail _ (.tail _ (.tail _ (.head _))))) hd d1
  have hDc : Dl ≠ c' := fun q => by
    have e1 := (N2 _ (.tail _ (.head _))).1
    have e2 := (N2 _ (.tail _ (.tail _ (.head _)))).1
    dsimp only at e1 e2
    rw [← q, e2] at e1
    cases e1; cases hd
  k_lt lf
  walk1
  with_reducible rename Fr _ _ _ _ => F3
  with_reducible rename News _ _ _ _ => N3
  rename_i h3 o1' dd1
  have m1 : hT.get? (L + 1 + 1 + 1) = none := (N3 _ (.tail _ (.tail _ (.tail _ (.tail _ (.head _)))))).2.2
  have m2 : hT.get? (L + 1 + 1) = none := (N3 _ (.tail _ (.tail _ (.tail _ (.tail _ (.tail _ (.head _))))))).2.2
  have m3 : hT.get? (L + 1) = none := (N3 _ (.tail _ (.tail _ (.tail _ (.tail _ (.tail _ (.tail _ (.head _)))))))).2.2
  have mf : hT.get? f = none := (N3 _ (.head _)).2.2
  have hDf : Dl ≠ f := Nat.ne_of_lt lf.1
  have hD1 : Dl ≠ L + 1 + 1 + 1 := Nat.ne_of_gt lD.2.1
  have hD2 : Dl ≠ L + 1 + 1 := Nat.ne_of_gt lD.2.2.1
  have hD3 : Dl ≠ L + 1 := Nat.ne_of_gt lD.2.2.2.1
  have inner : ∀ (k lo hi : Nat) (x : Int) (dp' un' : Nat) (fr' : Option (List Env)) (gd' : Option (List Code)) (τ : Heap) (τg : Array GenState) (τd : Drawn) (τt : Nat) (τo : OsState) (tx tl th : Tok) (Q' E' : Value → Shared → Prop) (vs' : List Value) (ys : List Int) (nd : Nat), hi - lo ≤ k → lo < hi → hi ≤ ys.length → ys.length ≤ 100 → 0 ≤ x → LtP x n (hi - lo) →
      dp' + k + 60 < recursionLimit → un' + 4 * k + 600 < cLine → On hT τ →
      (∀ o, h2.get? f = some o → τ.get? f = some o) → τ.CodeRec (.ref c') q51 → (∃ o, τ.get? (L + 1 + 1 + 1) = some o ∧ o.data = .cell (some (.ref f))) → (∃ o, τ.get? (L + 1 + 1) = some o ∧ o.data = .cell (some (.ref Dl))) →
      (∃ o, τ.get? (L + 1) = some o ∧ o.data = .cell (some (.int n tn))) → τ.get? Dl = some (listOf (List.toArray vs') nd) → IntsAre vs' ys →
      (∀ h' tk' vs'' nd', (∀ b o, b ≠ Dl → τ.get? b = some o → h'.get? b = some o) → h'.get? Dl = some (listOf (List.toArray vs'') nd') → IntsAre vs'' (ys.take lo ++ dgs (2 ^ n) (hi - lo) x ++ ys.drop hi) → Q' .none ⟨h', τg, τd, tk', τo⟩) →
      wpAny (model prog w) { handled := none, depth := dp', frames := fr', guards := gd', units := un' } (call (.ref f) [.int x tx, .int lo tl, .int hi th]) Q' E' ⟨τ, τg, τd, τt, τo⟩ := by
    clear F3 N3 htab hret
    intro k
    induction k with
    | zero => intros; exfalso; omega
    | succ k ih =>
      intro lo hi x dp' un' fr' gd' τ τg τd τt τo tx tl th Q' E' vs' ys nd hk hlo hhi hy hx0 hx1 hd' hu' hO hf hcr hc1 hc2 hc3 hli hys hret'
      refine' enterF T hO (hf _ hF) rfl hcr ?k8 ?k9 ?kB ?_ ?c2 ?c3 ?c4 ?c5
      (case k8 => ktr_room); (case k9 => exact BindsTo.of_eq rfl); (case kB => exact locs rfl); (case c2 => exact rfl); (case c3 => exact rfl); (case c4 => exact rfl); (case c5 => decide)
      intro G4 L4 h4 tk4 LO4 F4 N4 hE4
      obtain ⟨oa, ga, da⟩ := hc1
      obtain ⟨ob, gb, db⟩ := hc2
      obtain ⟨oc', gc, dc⟩ := hc3
      have mD4 := LO4.into _ _ hli mD
      obtain ⟨G5, N5, hG5, hGs5, hGb5⟩ := News_at (own := []) N4 mD4
      rw [List.nil_append] at N5
      have ma := hGb5 _ (LO4.into _ _ ga m1) (Ne.symm hD1)
      have mbb := hGb5 _ (LO4.into _ _ gb m2) (Ne.symm hD2)
      have mc := hGb5 _ (LO4.into _ _ gc m3) (Ne.symm hD3)
      have mff := hGb5 _ (LO4.into _ _ (hf _ hF) mf) (Ne.symm hDf)
      have hvl := hys.length
      have hkeep : ∀ h' m' led, Fr hT L4 h' m' → News hT L4 h' led → (∀ q ∈ G5, q ∈ led) → ∀ b o, b ≠ Dl → τ.get? b = some o → h'.get? b = some o := fun h' m' led F' N' hs b o hb e => by
        cases q : hT.get? b with
        | some o' =>
          have := hO.keep b o' q
          rw [e] at this; cases this
          exact F'.keep b o q
        | none => exact (N' _ (hs _ (hGb5 _ (LO4.into b o e q) hb))).1
      clear N4
      have hmid : ((lo : Int) + hi).fdiv (2 ^ Int.toNat 1) = (((lo + hi) / 2 : Nat) : Int) := by
        rw [show (2 : Int) ^ Int.toNat 1 = 2 from rfl, Int.fdiv_eq_ediv_of_nonneg _ (by decide)]
        omega
      have hm1 : lo ≤ (lo + hi) / 2 := by omega
      have hm2 : (lo + hi) / 2 < hi := by omega
      have hm3 : lo + 1 ≠ hi → lo < (lo + hi) / 2 := by omega
      generalize hmm : (lo + hi) / 2 = mid at *
      have hsh0 : 0 ≤ (((lo : Int) + hi).fdiv (2 ^ Int.toNat 1) - lo) * n := by rw [hmid]; exact Int.mul_nonneg (by omega) (by omega)
      have hsh1 : (((lo : Int) + hi).fdiv (2 ^ Int.toNat 1) - lo) * n ≤ 10000 := by
        rw [hmid]
        have h1 : ((mid : Int) - lo) * n ≤ 100 * n := Int.mul_le_mul_of_nonneg_right (by omega) (by omega)
        omega
      have hshn : ((((lo : Int) + hi).fdiv (2 ^ Int.toNat 1) - lo) * n).toNat = n * (mid - lo) := by
        have : ((mid : Int) - lo) * n = ((n * (mid - lo) : Nat) : Int) := by
          rw [Int.natCast_mul, Int.mul_comm, Int.natCast_sub (by omega)]
        rw [hmid, this, Int.toNat_natCast]
      have hbx : Builtin.Int.intBits (x.fdiv (2 ^ ((((lo : Int) + hi).fdiv (2 ^ Int.toNat 1) - lo) * n).toNat)) ≤ 10000 := by
        refine Nat.le_trans (intBits_fdiv_le (m := n * (hi - lo)) (intBits_le_iff.mpr ?_)) (Nat.le_trans (Nat.mul_le_mul hn (by omega : hi - lo ≤ 100)) (by decide))
        have h2 := hx1.out
        rw [← Int.pow_mul] at h2
        have h3 : (x.natAbs : Int) = x := Int.natAbs_of_nonneg hx0
        have h4 : ((2 ^ (n * (hi - lo)) : Nat) : Int) = (2 : Int) ^ (n * (hi - lo)) := by push_cast; rfl
        omega
      clear hmm
      ktr_unf
      · with_reducible rename (_ : Int) = _ => hc
        with_reducible rename Fr _ _ _ _ => F5
        with_reducible rename News _ _ _ _ => N6
        with_reducible rename IntsAre _ (List.set _ _ _) => i5
        have e1 : hi = lo + 1 := by omega
        subst e1
        refine hret' _ _ _ _ (hkeep _ _ _ F5 N6 (fun q hq => .tail _ hq)) (N6 _ (.head _)).1 ?_
        rw [Int.toNat_natCast, set_mid ys lo x (by omega)] at i5
        have e2 : lo + 1 - lo = 1 := by omega
        have hx2 := hx1.out
        rw [e2, Int.pow_one] at hx2
        rw [e2, dgs_one hx0 hx2]
        exact i5
      · with_reducible rename (_ : Int) ≠ _ => hc
        with_reducible rename Fr _ _ _ _ => F5
        with_reducible rename News _ _ _ _ => N6
        have hm1 := hm3 (by omega)
        refine callWith_F (FnAt.of N6 (.tail _ mff)) ?_
        have hp2 : (0 : Int) < 2 ^ n := Int.pow_pos (by decide)
        have hK : ∀ k : Nat, (2 : Int) ^ (n * k) = (2 ^ n) ^ k := fun k => Int.pow_mul ..
        have hlow : Builtin.bitXor x (x.fdiv (2 ^ ((((lo : Int) + hi).fdiv (2 ^ Int.toNat 1) - lo) * n).toNat) * 2 ^ ((((lo : Int) + hi).fdiv (2 ^ Int.toNat 1) - lo) * n).toNat) = x % (2 ^ n) ^ (mid - lo) := by
          rw [xor_low hx0, hshn, hK]
        have hupp : x.fdiv (2 ^ ((((lo : Int) + hi).fdiv (2 ^ Int.toNat 1) - lo) * n).toNat) = x / (2 ^ n) ^ (mid - lo) := by
          rw [hshn, hK, Int.fdiv_eq_ediv_of_nonneg _ (Int.le_of_lt (Int.pow_pos hp2))]
        have hpm : (0 : Int) < (2 ^ n) ^ (mid - lo) := Int.pow_pos hp2
        have hu1 : x / (2 ^ n) ^ (mid - lo) < (2 ^ n) ^ (hi - mid) := by
          refine Int.ediv_lt_of_lt_mul hpm ?_
          rw [← Int.pow_add]
          have e : hi - mid + (mid - lo) = hi - lo := by rw [half_sum hm1 hm2, Nat.add_comm]
          rw [e]
          exact hx1.out
        have hl0 : 0 ≤ x % (2 ^ n) ^ (mid - lo) := Int.emod_nonneg _ (Int.ne_of_gt hpm)
        have hl1 : x % (2 ^ n) ^ (mid - lo) < (2 ^ n) ^ (mid - lo) := Int.emod_lt_of_pos _ hpm
        have hu0 : 0 ≤ x / (2 ^ n) ^ (mid - lo) := Int.ediv_nonneg hx0 (Int.le_of_lt hpm)
        have hdg : dgs (2 ^ n) (hi - lo) x = dgs (2 ^ n) (mid - lo) (x % (2 ^ n) ^ (mid - lo)) ++ dgs (2 ^ n) (hi - mid) (x / (2 ^ n) ^ (mid - lo)) := by
          have e : hi - lo = (mid - lo) + (hi - mid) := half_sum hm1 hm2
          rw [e, dgs_split hp2]
        replace hl1 : LtP (x % (2 ^ n) ^ (mid - lo)) n (mid - lo) := ⟨hl1⟩
        replace hu1 : LtP (x / (2 ^ n) ^ (mid - lo)) n (hi - mid) := ⟨hu1⟩
        generalize x % (2 ^ n) ^ (mid - lo) = low at *
        generalize x / (2 ^ n) ^ (mid - lo) = upp at *
        clear hp2 hpm hK
        ktr_unf
        any_goals (first | exact FnAt.of N6 (.tail _ mff) | skip)
        rw [hlow, hmid]
        have hE6 := hkeep _ _ _ F5 N6 (fun q hq => .tail _ hq)
        refine' ih lo mid low _ _ _ _ _ _ _ _ _ _ _ _ _ _ vs' ys nd ?y1 ?y2 ?y3 ?y3b ?y3c ?y3d ?y4 ?y5 ?y6 ?y7 ?y8 ?y9 ?y10 ?y11 ?y12 ?y13 ?_
        (case y1 => exact half_lo hk hm2 hm1); (case y2 => omega); (case y3 => omega); (case y3b => exact hy); (case y3c => exact hl0); (case y3d => exact hl1)
        (case y4 => exact dep_le hd')
        (case y5 => exact un_le hu')
        (case y6 => exact On.of F5)
        (case y7 => exact fun o e => hE6 _ _ (Ne.symm hDf) (hf o e))
        (case y8 => obtain ⟨c9, oc9, vs9, t9, e9, g9, r9⟩ := hcr; cases e9; exact ⟨_, oc9, vs9, t9, rfl, hE6 _ _ (Ne.symm hDc) g9, r9⟩)
        (case y9 => exact ⟨oa, hE6 _ _ (Ne.symm hD1) ga, da⟩)
        (case y10 => exact ⟨ob, hE6 _ _ (Ne.symm hD2) gb, db⟩)
        (case y11 => exact ⟨oc', hE6 _ _ (Ne.symm hD3) gc, dc⟩)
        (case y12 => exact (N6 _ (.head _)).1)
        (case y13 => exact hys)
        intro h7 tk7 vs7 nd7 k7 g7 i7
        have hDL4 : Dl ≠ L4 := (N6 _ (.head _)).2.1
        have F7 := Fr_but F5 k7 mD hDL4
        have N7 := News_but (G := G5) (News_sub N6 (fun p hp => .tail _ hp)) hG5 k7 mD hDL4 g7
        clear F5 N6
        have hAl : (dgs (2 ^ n) (mid - lo) low).length = mid - lo := dgs_length ..
        have hy7 := mid_length ys _ (lo := lo) (mid := mid) (by omega) (by omega) hAl
        have ht7 := mid_take ys _ (lo := lo) (mid := mid) (by omega) (by omega) hAl
        have hd7 := mid_drop ys _ (lo := lo) (mid := mid) (hi := hi) (by omega) (by omega) (by omega) hAl
        ktr_unf
        refine callWith_F (FnAt.of N7 (.tail _ mff)) ?_
        ktr_unf
        any_goals (first | exact FnAt.of N7 (.tail _ mff) | skip)
        rw [hupp, hmid]
        have hE7 : ∀ b o, b ≠ Dl → τ.get? b = some o → h7.get? b = some o := fun b o hb e => k7 b o hb (hE6 b o hb e)
        refine' ih mid hi upp _ _ _ _ _ _ _ _ _ _ _ _ _ _ vs7 _ nd7 ?y1 ?y2 ?y3 ?y3b ?y3c ?y3d ?y4 ?y5 ?y6 ?y7 ?y8 ?y9 ?y10 ?y11 ?y12 ?y13 ?_
        (case y13 => exact i7)
        (case y1 => exact half_hi hk hm1); (case y2 => omega); (case y3 => rw [hy7]; omega); (case y3b => rw [hy7]; exact hy); (case y3c => exact hu0); (case y3d => exact hu1)
        (case y4 => exact dep_le hd')
        (case y5 => exact un_le hu')
        (case y6 => exact On.of F7)
        (case y7 => exact fun o e => hE7 _ _ (Ne.symm hDf) (hf o e))
        (case y8 => obtain ⟨c9, oc9, vs9, t9, e9, g9, r9⟩ := hcr; cases e9; exact ⟨_, oc9, vs9, t9, rfl, hE7 _ _ (Ne.symm hDc) g9, r9⟩)
        (case y9 => exact ⟨oa, hE7 _ _ (Ne.symm hD1) ga, da⟩)
        (case y10 => exact ⟨ob, hE7 _ _ (Ne.symm hD2) gb, db⟩)
        (case y11 => exact ⟨oc', hE7 _ _ (Ne.symm hD3) gc, dc⟩)
        (case y12 => exact g7)
        intro h9 tk9 vs9 nd9 k9 g9 i9
        rw [ht7, hd7] at i9
        ktr_unf
        refine hret' _ _ _ _ (fun b o hb e => k9 b o hb (hE7 b o hb e)) g9 ?_
        rw [hdg, ← List.append_assoc]
        exact i9
  have hend : ∀ h' m' led, Fr hT L h' m' → News hT L h' led → (∀ q ∈ (c', oc) :: (51, tabObj #[rawInt pos51.line, rawInt pos51.col, .ref c']) :: G', q ∈ led) → (∀ b o, b ≠ 51 → σ.get? b = some o → h'.get? b = some o) ∧ Tab hT h' 51 q51 pos51 := by
    intro h' m' led F' N' hs
    refine ⟨fun b o hb e => ?_, hT8, _, (N' _ (hs _ (.tail _ (.head _)))).1, .inr ⟨c', oc, vs, t, rfl, (N' _ (hs _ (.head _))).1, (N' _ (hs _ (.head _))).2.2, hd, hv⟩⟩
    cases q : hT.get? b with
    | some o' =>
      have := hK.keep b o' q
      rw [e] at this; cases this
      exact F'.keep b o q
    | none => exact (N' _ (hs _ (.tail _ (.tail _ (hGb _ (LO.into b o e q) hb))))).1
  have hsubG : ∀ q ∈ (c', oc) :: (51, tabObj #[rawInt pos51.line, rawInt pos51.col, .ref c']) :: G', ∀ (a1 a2 a3 a4 a5 a6 : Addr × Obj), q ∈ a1 :: (c', oc) :: a2 :: a3 :: a4 :: a5 :: a6 :: (51, tabObj #[rawInt pos51.line, rawInt pos51.col, .ref c']) :: G' := fun q hq a1 a2 a3 a4 a5 a6 => by
    rcases List.mem_cons.mp hq with rfl | hq
    · exact .tail _ (.head _)
    · exact .tail _ (.tail _ (.tail _ (.tail _ (.tail _ (.tail _ (.tail _ hq))))))
  have hcr3 : h3.CodeRec (.ref c') q51 := ⟨c', oc, vs, t, rfl, (N3 _ (.tail _ (.head _))).1, hd, hv⟩
  have hf3 : ∀ o, h2.get? f = some o → h3.get? f = some o := fun o e => by
    rw [hF] at e
    cases e
    exact (N3 _ (.head _)).1
  have hO3 : On hT h3 := On.of F3
  have hDg := (N3 _ (.tail _ (.tail _ (.head _)))).1
  have hcells := And.intro (N3 _ (.tail _ (.tail _ (.tail _ (.tail _ (.head _)))))).1 (And.intro (N3 _ (.tail _ (.tail _ (.tail _ (.tail _ (.tail _ (.head _))))))).1 (N3 _ (.tail _ (.tail _ (.tail _ (.tail _ (.tail _ (.tail _ (.head _)))))))).1)
  have hDs : σ.get? Dl = none := by
    cases q : σ.get? Dl with
    | none => rfl
    | some o => exact absurd (LO.under _ (LO.into Dl o q mD)) (Nat.not_lt.mpr (Nat.le_of_lt (Nat.lt_of_le_of_lt (Nat.le_succ L) lD.2.2.2.1)))
  ktr_unf
  · with_reducible rename a ≠ 0 => hne
    have hk1 : 0 < kN := by
      rcases Nat.eq_zero_or_pos kN with e | e
      · have := hab.out
        rw [e, Int.pow_zero] at this
        omega
      · exact e
    refine len_any (News.isList N3 (.tail _ (.tail _ (.head _)))) (k := kN) (by simp) (by omega) ?_
    intro t5 tk5
    try dsimp only
    ktr_unf
    any_goals (first | exact FnAt.of N3 (.head _) | skip)
    refine' inner kN 0 kN a _ _ _ _ _ _ _ _ _ _ _ _ _ _ _ (List.replicate kN 0) _ ?y1 ?y2 ?y3 ?y3b ?y3c ?y3d ?y4 ?y5 ?y6 ?y7 ?y8 ?y9 ?y10 ?y11 ?y12 ?y13 ?_
    (case y12 => exact hDg)
    (case y13 => (rw [Int.toNat_natCast]; exact IntsAre_rep 0 _ kN))
    (case y1 => omega); (case y2 => exact hk1); (case y3 => (rw [List.length_replicate]; exact Nat.le_refl _)); (case y3b => (rw [List.length_replicate]; exact hkb)); (case y3c => exact ha); (case y3d => exact hab)
    (case y4 => (show dp + 1 + kN + 60 < _; omega))
    (case y5 => (show un + 3 + 4 * kN + 600 < _; omega))
    (case y6 => exact hO3)
    (case y7 => exact hf3)
    (case y8 => exact hcr3)
    (case y9 => exact ⟨_, hcells.1, dd1⟩)
    (case y10 => exact ⟨_, hcells.2.1, dd2⟩)
    (case y11 => exact ⟨_, hcells.2.2, d3⟩)
    intro h7 tk7 vs7 nd7 k7 g7 i7
    have e7 : (List.replicate kN (0 : Int)).take 0 ++ dgs (2 ^ n) (kN - 0) a ++ (List.replicate kN (0 : Int)).drop kN = dgs (2 ^ n) kN a := by simp
    rw [e7] at i7
    have F7 := Fr_but F3 k7 mD hDL
    have N7 : News hT L h7 ((Dl, listOf (List.toArray vs7) nd7) :: (L + 1 + 1, o2') :: (c', oc) :: (51, tabObj #[rawInt pos51.line, rawInt pos51.col, .ref c']) :: G') := by
      refine News_but (News_sub N3 ?_) ?_ k7 mD hDL g7
      · intro p hp
        rcases List.mem_cons.mp hp with rfl | hp
        · exact .tail _ (.tail _ (.tail _ (.tail _ (.tail _ (.head _)))))
        · exact hsubG p hp _ _ _ _ _ _
      · intro p hp
        rcases List.mem_cons.mp hp with rfl | hp
        · exact Ne.symm hD2
        · rcases List.mem_cons.mp hp with rfl | hp
          · exact Ne.symm hDc
          · rcases List.mem_cons.mp hp with rfl | hp
            · exact Nat.ne_of_lt lD.2.2.2.2.1
            · exact lD51 p hp
    clear F3 N3
    ktr_unf
    obtain ⟨k8, tb8⟩ := hend _ _ _ F7 N7 (fun q hq => .tail _ (.tail _ hq))
    exact hret Dl _ _ k8 tb8 hDs ⟨mD, vs7, nd7, g7, i7⟩
  · with_reducible rename a = 0 => he
    obtain ⟨k8, tb8⟩ := hend _ _ _ F3 N3 (fun q hq => hsubG q hq _ _ _ _ _ _)
    refine hret Dl h3 _ k8 tb8 hDs ⟨mD, _, _, hDg, ?_⟩
    rw [hk0 he]
    exact .nil
end
end

section
theorem startDiv : True := by
  w_top off
  trivial
set_option maxHeartbeats 1000000
section
/-- a pair of ints, as a tuple that the run has made -/
def TupII (hT h : Heap) (r : Addr) (x y : Int) : Prop := hT.get? r = none ∧ ∃ t u n, h.get? r = some { cls := .type "tuple", data := .seq #[.int x t, .int y u] n }
theorem TupII.mk {hT h : Heap} {r : Addr} {x y x' y' : Int} {t u : Tok} {n : Nat} (h1 : hT.get? r = none) (h2 : h.get? r = some { cls := .type "tuple", data := .seq #[.int x t, .int y u] n }) (e1 : x = x') (e2 : y = y') : TupII hT h r x' y' := by
  subst e1 e2
  exact ⟨h1, t, u, n, h2⟩
theorem no_pylong {a b : Int} (hb : Builtin.Int.intBits b ≤ 1000) : Builtin.divisionGoesByPylong a b = false := by
  unfold Builtin.divisionGoesByPylong
  have h : (if (b == 0) = true then 0 else b.natAbs.log2 / 30 + 1) ≤ 300 := by
    unfold Builtin.Int.intBits at hb
    split at hb
    · rename_i q; rw [if_pos q]; omega
    · rename_i q; rw [if_neg q]; omega
  simp only [Bool.and_eq_false_iff, decide_eq_false_iff_not]
  left
  omega
theorem d2n_call {prog : Program} {w : World} {σ : Heap} {σg : Array GenState} {σd : Drawn} {σt : Nat} {σo : OsState} {Q E : Value → Shared → Prop} {p : Program} {loose : List Str} {mean : ExcName → Option Value} {mg mb : Str → Option Value} {hT : Heap}
    {dp un : Nat} {fr : Option (List Env)} {gd : Option (List Code)} {a b n : Int} {ta tb tn : Tok}
    (X : (hd.heap_39 w.params).In hT) (T : Top p loose mean mg mb hT) (hK : On hT σ) (hdp : dp + 50 < recursionLimit) (hun : un + 500 < cLine)
    (ha : 0 ≤ a) (hb : 0 < b) (hn : 0 ≤ n) (hbits : Builtin.Int.intBits a ≤ 1000) (hbb : Builtin.Int.intBits b ≤ 1000)
    (hret : ∀ r h' tk', Ext σ h' → σ.get? r = none → TupII hT h' r (a / b) (a % b) → Q (.ref r) ⟨h', σg, σd, tk', σo⟩) :
    wpAny (model prog w) { handled := none, depth := dp, frames := fr, guards := gd, units := un } (call (.ref 42) [.int a ta, .int b tb, .int n tn]) Q E ⟨σ, σg, σd, σt, σo⟩ := by
  have hfill : Fill Mine.hd.heap_39 PySem.Challenge.rw_ul0003_01 := by (k_fill; trivial)
  refine' enterG X T hK ?k6 ?k7 ?k8 ?k9 ?kB ?_ ?c2 ?c3 ?c4 ?c5
  (case k6 => k_is); (case k7 => k_is); (case k8 => ktr_room); (case k9 => exact BindsTo.of_eq rfl); (case c5 => decide); (case kB => exact locs rfl); (case c2 => exact rfl); (case c3 => exact rfl); (case c4 => exact rfl)
  intro G L h₁ tk₁ hG hGs hGL hExt hBL F N hE1
  try dsimp only
  ktr_unf
  refine divmod_N F N (by omega) (fun h' F' N' => ?_) (.inl ?_)
  · have e := N' _ (.head _)
    have hE := hExt _ _ _ F' N' (fun p hp => .tail _ hp)
    have hf : σ.get? h₁.objs.size = none := by
      cases q : σ.get? h₁.objs.size with
      | none => rfl
      | some o => exact absurd (Heap.lt_size (hE1 _ _ q)) (Nat.lt_irrefl _)
    exact hret _ h' _ hE hf (TupII.mk e.2.2 e.1 (Int.fdiv_eq_ediv_of_nonneg a (Int.le_of_lt hb)) (Int.fmod_eq_emod_of_nonneg a (Int.le_of_lt hb)))
  · exact no_pylong hbb
end
end

section
theorem startDmp : True := by
  w_top off
  trivial
set_option maxHeartbeats 1000000
/-- all stays but the two tables -/
def KeptB (h h' : Heap) : Prop := ∀ b o, b ≠ 51 → b ≠ 58 → h.get? b = some o → h'.get? b = some o
theorem Tab.other {hT h h' : Heap} {P P' : Addr} {q q' : Str} {pos pos' : Pos} (x : Tab hT h P q pos) (y : Tab hT h P' q' pos') (hne : P ≠ P') (k : ∀ b o, b ≠ P' → h.get? b = some o → h'.get? b = some o) : Tab hT h' P q pos := by
  obtain ⟨a, ps, b, c⟩ := x
  obtain ⟨_, ps', b', c'⟩ := y
  refine ⟨a, ps, k _ _ hne b, c.imp id ?_⟩
  rintro ⟨c1, oc, vs, t, e1, e2, e3, e4, e5⟩
  refine ⟨c1, oc, vs, t, e1, k _ _ (fun z => ?_) e2, e3, e4, e5⟩
  rw [z, b'] at e2; cases e2
  cases e4
  rcases c' with rfl | ⟨c2, oc2, vs2, t2, f1, f2, f3, f4, f5⟩
  · simp at e5
  · subst f1
    simp at e5
    cases e5
theorem nsf_ne {hT h : Heap} {L : Addr} {m : Str → Option Value} (F : Fr hT L h m) {a : Addr} {o : Obj} (e : h.get? a = some o) (hd : ∃ vs, o.data = .fields vs) : a ≠ L := by
  rintro rfl
  obtain ⟨oL, es, ep, hL, hd', _⟩ := F.ns
  obtain ⟨_, hd⟩ := hd
  rw [hL] at e; cases e; rw [hd] at hd'; cases hd'
section
variable {prog : Program} {w : World} {A : Around} {σ : Heap} {σg : Array GenState} {σd : Drawn} {σt : Nat} {σo : OsState} {Q E : Value → Shared → Prop} {h₀ : Heap} {L : Addr} {m : Str → Option Value}
theorem rev_U {D : Addr} {us : List Value} {n : Nat} {news news' : List (Addr × Obj)} (F : Fr h₀ L σ m) (N : News h₀ L σ news)
    (U : Upd D (listOf (List.toArray us) n) (listOf (List.toArray us.reverse) n) news news') (hz : us.length ≤ 100000)
    (h : ∀ h', Fr h₀ L h' m → News h₀ L h' news' → Q .none ⟨h', σg, σd, σt, σo⟩) :
    wpAny (model prog w) A (call (.builtin "list.reverse") [.ref D]) Q E ⟨σ, σg, σd, σt, σo⟩ :=
  kl_reverse F N rfl U (by rw [sizeLine_eq]; show us.length ≤ _; omega) h
end
section
local macro_rules | `(tactic| walk_at "call builtin:list.reverse") => `(tactic| ((with_reducible rename Fr _ _ _ _ => F9); (with_reducible rename News _ _ _ _ => N9); (refine' rev_U F9 N9 ?U ?z ?_; (case U => k_upd); (case z => omega)); intro h9 F9 N9))
local macro_rules | `(tactic| walk_at "binaryOp LShift int int") => `(tactic| (refine shl_call rfl (by assumption) (by assumption) (by assumption) ?_; intro _ _))
structure DW (D : Addr) (b : Int) (tb : Tok) (ds : List Int) (i : Nat) (m' : Str → Option Value) (h' : Heap) (qs : List Int) (vq : List Value) (nq : Nat) (rr : Int) (tr tn : Tok) : Prop where
  q1 : m' (Str.ofString "q_digits") = some (.ref D)
  q2 : m' (Str.ofString "r") = some (.int rr tr)
  q3 : m' (Str.ofString "b") = some (.int b tb)
  q4 : m' (Str.ofString "n") = some (.int (Builtin.Int.intBits b) tn)
  q5 : h'.get? D = some (listOf (List.toArray vq) nq)
  q6 : IntsAre vq qs
  q7 : qs.length = i
  q8 : ∀ x ∈ qs, 0 ≤ x ∧ x < 2 ^ Builtin.Int.intBits b
  q9 : rr = dval (2 ^ Builtin.Int.intBits b) (ds.drop (ds.length - i)) % b
  q10 : dval (2 ^ Builtin.Int.intBits b) qs.reverse = dval (2 ^ Builtin.Int.intBits b) (ds.drop (ds.length - i)) / b
theorem dmp_call {prog : Program} {w : World} {σ : Heap} {σg : Array GenState} {σd : Drawn} {σt : Nat} {σo : OsState} {Q E : Value → Shared → Prop} {p : Program} {loose : List Str} {mean : ExcName → Option Value} {mg mb : Str → Option Value} {hT : Heap}
    {dp un : Nat} {fr : Option (List Env)} {gd : Option (List Code)} {a b : Int} {ta tb : Tok}
    (X : (hd.heap_39 w.params).In hT) (T : Top p loose mean mg mb hT) (hK : On hT σ) (hdp : dp + 260 < recursionLimit) (hun : un + 1300 < cLine)
    (ha : 0 ≤ a) (hb : 0 < b) (hba : Builtin.Int.intBits a ≤ 60) (hbb : Builtin.Int.intBits b ≤ 60)
    (C51 : CodeHd hT 55 51) (t51 : Tab hT σ 51 q51 pos51) (C58 : CodeHd hT 62 58) (t58 : Tab hT σ 58 q58 pos58)
    (hret : ∀ r h' tk', KeptB σ h' → Tab hT h' 51 q51 pos51 → Tab hT h' 58 q58 pos58 → σ.get? r = none → TupII hT h' r (a / b) (a % b) → Q (.ref r) ⟨h', σg, σd, tk', σo⟩) :
    wpAny (model prog w) { handled := none, depth := dp, frames := fr, guards := gd, units := un } (call (.ref 70) [.int a ta, .int b tb]) Q E ⟨σ, σg, σd, σt, σo⟩ := by
  have hfill : Fill Mine.hd.heap_39 PySem.Challenge.rw_ul0003_01 := by (k_fill; trivial)
  refine' enterG X T hK ?k6 ?k7 ?k8 ?k9 ?kB ?_ ?c2 ?c3 ?c4 ?c5
  (case k6 => k_is); (case k7 => k_is); (case k8 => ktr_room); (case k9 => exact BindsTo.of_eq rfl); (case c5 => decide); (case kB => exact locs rfl); (case c2 => exact rfl); (case c3 => exact rfl); (case c4 => exact rfl)
  intro G L h₁ tk₁ hG hGs hGL hExt hBL F N hE1
  try dsimp only
  obtain ⟨hT51, ps51, g51, _⟩ := id t51
  obtain ⟨hT58, ps58, g58, _⟩ := id t58
  have h51L : (51 : Addr) ≠ L := fun q => by rw [q, hBL] at g51; cases g51
  have h58L : (58 : Addr) ≠ L := fun q => by rw [q, hBL] at g58; cases g58
  ktr_unf
  with_reducible rename Fr _ _ _ _ => F1
  with_reducible rename News _ _ _ _ => N1
  have hE2 := hExt _ _ _ F1 N1 (fun p hp => hp)
  have hbb' : Builtin.Int.intBits b ≤ 64 := by omega
  have hn1 : 1 ≤ Builtin.Int.intBits b := by
    unfold Builtin.Int.intBits
    rw [if_neg (by simp; omega)]
    omega
  have hbn : b < 2 ^ Builtin.Int.intBits b := by
    have h1 := intBits_le_iff.mp (Nat.le_refl (Builtin.Int.intBits b))
    have h3 : (b.natAbs : Int) = b := Int.natAbs_of_nonneg (Int.le_of_lt hb)
    have h4 : ((2 ^ Builtin.Int.intBits b : Nat) : Int) = (2 : Int) ^ Builtin.Int.intBits b := by push_cast; rfl
    omega
  have hB0 : (0 : Int) < 2 ^ Builtin.Int.intBits b := Int.pow_pos (by decide)
  have hab : a < (2 ^ Builtin.Int.intBits b) ^ ((Builtin.Int.intBits a + Builtin.Int.intBits b - 1) / Builtin.Int.intBits b) := by
    rw [← Int.pow_mul]
    have h1 := Nat.div_add_mod (Builtin.Int.intBits a + Builtin.Int.intBits b - 1) (Builtin.Int.intBits b)
    have h2 := Nat.mod_lt (Builtin.Int.intBits a + Builtin.Int.intBits b - 1) (by omega : Builtin.Int.intBits b > 0)
    have h5 : Builtin.Int.intBits a ≤ Builtin.Int.intBits b * ((Builtin.Int.intBits a + Builtin.Int.intBits b - 1) / Builtin.Int.intBits b) := by omega
    have h6 := intBits_le_iff.mp h5
    have h3 : (a.natAbs : Int) = a := Int.natAbs_of_nonneg ha
    have h4 : ((2 ^ (Builtin.Int.intBits b * ((Builtin.Int.intBits a + Builtin.Int.intBits b - 1) / Builtin.Int.intBits b)) : Nat) : Int) = (2 : Int) ^ (Builtin.Int.intBits b * ((Builtin.Int.intBits a + Builtin.Int.intBits b - 1) / Builtin.Int.intBits b)) := by push_cast; rfl
    omega
  have hkl : (Builtin.Int.intBits a + Builtin.Int.intBits b - 1) / Builtin.Int.intBits b ≤ 60 := by
    rw [← Nat.lt_succ_iff, Nat.div_lt_iff_lt_mul (by omega)]
    have h3 : 61 * 1 ≤ 61 * Builtin.Int.intBits b := Nat.mul_le_mul_left _ hn1
    have h4 : (61 - 1) * Builtin.Int.intBits b + Builtin.Int.intBits b = 61 * Builtin.Int.intBits b := by omega
    omega
  refine' i2d_call X T ?z1 ?z2 ?z3 ha hn1 ?z4 ?z5 C51 ?z6 ?_
  (case z1 => exact On.of F1)
  (case z2 => ktr_room)
  (case z3 => (show un + 3 + 1200 < _; omega))
  (case z4 => omega)
  (case z5 => omega)
  (case z6 => exact t51.keep (fun b o _ e => hE2 b o e))
  intro r h2 tk2 k2 t51' f2 l2
  have t58' := (t58.keep (h' := _) (fun b o _ e => hE2 b o e)).other (t51.keep (h' := _) (fun b o _ e => hE2 b o e)) (by decide) k2
  have F2 := Fr_but F1 k2 hT51 h51L
  clear N1 F1
  generalize hds : dgs (2 ^ Builtin.Int.intBits b) ((Builtin.Int.intBits a + Builtin.Int.intBits b - 1) / Builtin.Int.intBits b) a = ds at *
  obtain ⟨G1, N1, hG1, -, hG1L⟩ := led_all F2 []
  obtain ⟨hTr, vr, nr, gr, ir⟩ := id l2
  have mr := hG1 _ _ gr (by simp) (ns_ne F2 gr rfl) hTr
  have hdsl : ds.length ≤ 60 := by rw [← hds, dgs_length]; exact hkl
  have hdsb : ∀ x ∈ ds, 0 ≤ x ∧ x < 2 ^ Builtin.Int.intBits b := by rw [← hds]; exact dgs_bound hB0 _ _
  have hdsv : dval (2 ^ Builtin.Int.intBits b) ds = a := by rw [← hds]; exact dval_dgs hB0 _ _ ha hab
  have hvr := ir.length
  have hrL : r ≠ L := ns_ne F2 gr rfl
  clear hab hkl hds
  have hH : ∀ b o, (hideAll h2 [L]).get? b = some o → h2.get? b = some o ∧ b ≠ L := fun b o e => ⟨of_hideAll _ e, fun q => by rw [q, hideAll_none [L] (.head _)] at e; cases e⟩
  have hI : ∀ b o, h2.get? b = some o → b ≠ L → (hideAll h2 [L]).get? b = some o := fun b o e q => hideAll_get _ e (fun z => q (List.mem_singleton.mp z))
  have hIf : ∀ b o, (∃ vs, o.data = .fields vs) → h2.get? b = some o → (hideAll h2 [L]).get? b = some o := fun b o hd e => hI b o e (nsf_ne F2 e hd)
  have hGsB : ∀ p ∈ G1, (hideAll h2 [L]).get? p.1 = some p.2 ∧ hT.get? p.1 = none := fun p hp => ⟨hI _ _ (N1 p hp).1 (N1 p hp).2.1, (N1 p hp).2.2⟩
  have hBL1 : (hideAll h2 [L]).get? L = none := hideAll_none _ (.head _)
  have hExt1 : ∀ h' m' led, Fr hT L h' m' → News hT L h' led → (∀ q ∈ G1, q ∈ led) → Ext (hideAll h2 [L]) h' := fun h' m' led F' N' hs b o e => by
    obtain ⟨e1, e2⟩ := hH b o e
    cases q : hT.get? b with
    | some o' => have := F2.keep b o' q; rw [e1] at this; cases this; exact F'.keep b o q
    | none => exact (N' _ (hs _ (hG1 b o e1 (by simp) e2 q))).1
  have hs2 : ∀ b o, σ.get? b = some o → b ≠ 51 → h2.get? b = some o := fun b o e q => k2 b o q (hE2 b o e)
  ktr_unf
  with_reducible rename Fr _ _ _ _ => F3
  with_reducible rename News _ _ _ _ => N3
  rename_i D _ l1 h3
  have hD := N3 _ (.head _)
  have hfD : h2.get? D = none := by
    cases q : h2.get? D with
    | none => rfl
    | some o => exact absurd (l1 _ (hG1 D o q (by simp) hD.2.1 hD.2.2)) (Nat.lt_irrefl _)
  have hfDB : (hideAll h2 [L]).get? D = none := by
    cases q : (hideAll h2 [L]).get? D with
    | none => rfl
    | some o => have := (hH D o q).1; rw [hfD] at this; cases this
  refine for_rev (hT := hT) (L := L) (hideAll h2 [L]) rfl (fun i m' h' => ∃ qs vq nq rr tr tn, DW D b tb ds i m' h' qs vq nq rr tr tn) r nr vr hBL1 ?_ ?_ ?_ ?_
  · rintro i m h h' ⟨qs, vq, nq, rr, tr, tn, q1, q2, q3, q4, q5, q6, q7, q8, q9, q10⟩ k
    exact ⟨qs, vq, nq, rr, tr, tn, q1, q2, q3, q4, k _ _ ⟨_, _, rfl⟩ q5, q6, q7, q8, q9, q10⟩
  · ktr_unf
    with_reducible rename Fr _ _ _ _ => F5
    with_reducible rename News _ _ _ _ => N5
    rename_i I h5 l5
    have hI5 := N5 _ (.head _)
    have hfI : (hideAll h2 [L]).get? I = none := by
      cases q : (hideAll h2 [L]).get? I with
      | none => rfl
      | some o => exact absurd (of_allLt l5.2 _ (hG1 I o (hH I o q).1 (by simp) (hH I o q).2 hI5.2.2)) (Nat.lt_irrefl _)
    refine RevAt.intro hI5.1 hI5.2.2 hfI hI5.2.1 (N5 _ (.tail _ (.tail _ mr))).1 F5 (hExt1 _ _ _ F5 N5 (fun q hq => .tail _ (.tail _ hq))) ⟨[], [], 0, 0, _, _, rfl, rfl, rfl, rfl, (N5 _ (.tail _ (.head _))).1, .nil, rfl, (fun x hx => by cases hx), ?_, ?_⟩
    · simp [dval]
    · simp [dval]
  · rintro i v m h tk it oit hlt hv ⟨qs, vq, nq, rr, tr, tn, q1, q2, q3, q4, q5, q6, q7, q8, q9, q10⟩ eB F4 hit hitf hitT hitL ha4 K₁ hK₁
    obtain ⟨G3, N4, hs3, hG3, hne, hk3, hE3⟩ := turn_led F4 eB hGsB hBL1 [D] (fun b hb => by rw [List.mem_singleton.mp hb]; exact hfDB)
    have hneD : ∀ p ∈ G3, p.1 ≠ D := fun p hp e => hne p hp (by rw [e]; exact .head _)
    replace N4 := News_cons N4 q5 hD.2.1 hD.2.2
    rw [hvr] at hlt hv
    have hdg := drop_last hlt
    obtain ⟨d, td, rfl, hd⟩ : ∃ d td, v = .int d td ∧ ds[ds.length - 1 - i]? = some d := by
      have hl : ds.length - 1 - i < ds.length := Nat.lt_of_le_of_lt (Nat.sub_le ..) (Nat.sub_lt (Nat.lt_of_le_of_lt (Nat.zero_le _) hlt) (by decide))
      obtain ⟨t, ht⟩ := ir.get (ds.length - 1 - i) ds[ds.length - 1 - i] (by simp [hl])
      exact ⟨_, t, by rw [hv] at ht; exact Option.some.inj ht, by simp [hl]⟩
    have hdm := hdsb d (List.mem_of_getElem? hd)
    rw [show ds.getD (ds.length - 1 - i) 0 = d by rw [List.getD, hd]; rfl] at hdg
    have hst := divstep (A := dval (2 ^ Builtin.Int.intBits b) (ds.drop (ds.length - i))) hb hB0 hdm.1 hdm.2
    rw [← q9] at hst
    have hrr0 : 0 ≤ rr := by rw [q9]; exact Int.emod_nonneg _ (Int.ne_of_gt hb)
    have hrr1 : rr < b := by rw [q9]; exact Int.emod_lt_of_pos _ hb
    have hbr : Builtin.Int.intBits rr ≤ 10000 := Nat.le_trans (intBits_le_iff.mpr (by
      have h4 : ((2 ^ (Builtin.Int.intBits b) : Nat) : Int) = (2 : Int) ^ (Builtin.Int.intBits b) := by push_cast; rfl
      omega)) (Nat.le_trans hbb (by decide))
    have hsn0 : (0 : Int) ≤ (Builtin.Int.intBits b : Nat) := by omega
    have hsn1 : ((Builtin.Int.intBits b : Nat) : Int) ≤ 10000 := by omega
    have hn0 : 0 ≤ rr * 2 ^ Builtin.Int.intBits b + d := Int.add_nonneg (Int.mul_nonneg hrr0 (Int.le_of_lt hB0)) hdm.1
    have hbn : Builtin.Int.intBits (rr * 2 ^ Builtin.Int.intBits b + d) ≤ 1000 := by
      refine Nat.le_trans (intBits_le_iff (m := Builtin.Int.intBits b + Builtin.Int.intBits b).mpr ?_) (by omega)
      have h4 : ((2 ^ (Builtin.Int.intBits b + Builtin.Int.intBits b) : Nat) : Int) = (2 : Int) ^ Builtin.Int.intBits b * (2 : Int) ^ Builtin.Int.intBits b := by push_cast; rw [Int.pow_add]
      have h5 : (rr + 1) * (2 : Int) ^ Builtin.Int.intBits b ≤ (2 : Int) ^ Builtin.Int.intBits b * (2 : Int) ^ Builtin.Int.intBits b := Int.mul_le_mul_of_nonneg_right (by omega) (Int.le_of_lt hB0)
      rw [Int.add_mul, Int.one_mul] at h5
      have h3 : ((rr * 2 ^ Builtin.Int.intBits b + d).natAbs : Int) = rr * 2 ^ Builtin.Int.intBits b + d := Int.natAbs_of_nonneg hn0
      omega
    have hvq := q6.length
    have hitD : @Ne Nat it D := fun q => by
      obtain ⟨_, hf⟩ := hitf
      have q' : it = D := q
      rw [q', q5] at hit; cases hit; cases hf
    have hrD : @Ne Nat r D := fun q => by
      have q' : r = D := q
      rw [q', hfD] at gr; cases gr
    replace F4 := Fr_names [(Str.ofString "q_digits", .ref D), (Str.ofString "r", .int rr tr), (Str.ofString "b", .int b tb), (Str.ofString "n", .int (Builtin.Int.intBits b) tn)] F4 (by
      intro p hp
      simp only [List.mem_cons, List.not_mem_nil, or_false] at hp
      rcases hp with rfl | rfl | rfl | rfl <;> assumption)
    clear F3 N3 q9
    ktr_unf
    with_reducible rename Fr _ _ _ _ => F5
    with_reducible rename News _ _ _ _ => N5
    rw [Int.toNat_natCast]
    refine' d2n_call X T ?z1 ?z2 ?z3 ?z4 ?z5 ?z6 ?z7 ?z8 ?_
    (case z1 => exact On.of F5)
    (case z2 => ktr_room)
    (case z3 => ktr_units)
    (case z4 => exact hn0)
    (case z5 => exact hb)
    (case z6 => exact hsn0)
    (case z7 => exact hbn)
    (case z8 => omega)
    intro r6 h6 tk6 e6 f6 t6
    have ne6 := allNe_of (ne_news N5 f6)
    simp only [AllNe] at ne6
    replace F5 := Fr.ext F5 e6
    replace N5 := News.ext N5 e6
    obtain ⟨hT6, t61, t62, n6, g6⟩ := t6
    replace N5 := News_cons N5 g6 (ns_ne F5 g6 rfl) hT6
    clear e6 f6
    ktr_unf
    with_reducible rename Fr _ _ _ _ => F6
    with_reducible rename News _ _ _ _ => N6
    have hE6 := hE3 _ _ _ F6 N6 (fun p hp => List.Mem.tail _ (List.Mem.tail _ hp))
    have hkk := hk3 _ _ _ F6 N6 (fun p hp => List.Mem.tail _ (List.Mem.tail _ hp))
    refine hK₁ _ _ _ F6 hE6 (hkk _ _ hit (notin1 hitD) hitL) (hkk _ _ ha4 (notin1 hrD) hrL) ⟨qs ++ [(rr * 2 ^ Builtin.Int.intBits b + d) / b], _, _, _, _, tn, rfl, rfl, rfl, rfl, (N6 _ (.tail _ (.head _))).1, IntsAre_snoc q6 _ _, ?_, ?_, ?_, ?_⟩
    · simp [q7]
    · intro x hx
      rcases List.mem_append.mp hx with hx | hx
      · exact q8 x hx
      · rw [List.mem_singleton.mp hx]; exact hst.2.2
    · rw [hdg, dval, hst.2.1]
    · rw [List.reverse_append, hdg]
      show dval _ (_ :: qs.reverse) = _
      rw [dval, dval, hst.1, q10]
  · rintro m h tk ⟨qs, vq, nq, rr, tr, tn, q1, q2, q3, q4, q5, q6, q7, q8, q9, q10⟩ eB F4
    try dsimp only
    obtain ⟨G3, N4, hs3, hG3, hne, hk3, hE3⟩ := turn_led F4 eB hGsB hBL1 [D] (fun b hb => by rw [List.mem_singleton.mp hb]; exact hfDB)
    have hneD : ∀ p ∈ G3, p.1 ≠ D := fun p hp e => hne p hp (by rw [e]; exact .head _)
    replace N4 := News_cons N4 q5 hD.2.1 hD.2.2
    have hvq := q6.length
    rw [hvr, Nat.sub_self, List.drop_zero, hdsv] at q9 q10
    rw [hvr] at q7
    subst q9
    replace F4 := Fr_names [(Str.ofString "q_digits", .ref D), (Str.ofString "r", .int (a % b) tr), (Str.ofString "b", .int b tb), (Str.ofString "n", .int (Builtin.Int.intBits b) tn)] F4 (by
      intro p hp
      simp only [List.mem_cons, List.not_mem_nil, or_false] at hp
      rcases hp with rfl | rfl | rfl | rfl <;> assumption)
    clear F3 N3
    ktr_unf
    with_reducible rename Fr _ _ _ _ => F6
    with_reducible rename News _ _ _ _ => N6
    have hreq := q6.reverse
    refine' d2i_call X T ?z1 ?z2 ?z3 ⟨(N6 _ (.head _)).2.2, _, _, (N6 _ (.head _)).1, hreq⟩ ?z4 hbb' ?z5 C58 ?z6 ?_
    (case z1 => exact On.of F6)
    (case z2 => ktr_room)
    (case z3 => ktr_units)
    (case z4 => (rw [List.length_reverse, q7]; omega))
    (case z5 => (intro x hx; exact q8 x (List.mem_reverse.mp hx)))
    (case z6 => exact t58'.keep (fun b o hd e => hE3 _ _ _ F6 N6 (fun p hp => List.Mem.tail _ hp) b o (hIf b o hd e)))
    intro t7 h7 tk7 k7 tb7
    have tb51 := (t51'.keep (h' := _) (fun b o hd e => hE3 _ _ _ F6 N6 (fun p hp => List.Mem.tail _ hp) b o (hIf b o hd e))).other (t58'.keep (h' := _) (fun b o hd e => hE3 _ _ _ F6 N6 (fun p hp => List.Mem.tail _ hp) b o (hIf b o hd e))) (by decide) k7
    have hs7 : ∀ b o, σ.get? b = some o → b ≠ 51 → b ≠ 58 → h7.get? b = some o := fun b o e q1 q2 => k7 b o q2 (hE3 _ _ _ F6 N6 (fun p hp => List.Mem.tail _ hp) b o (hI b o (hs2 b o e q1) (fun z => by rw [z, hBL] at e; cases e)))
    have F7 := Fr_but F6 k7 hT58 h58L
    obtain ⟨G8, N8, hG8, -, hG8L⟩ := led_all F7 []
    have hF7k := F7.keep
    have hF7n : ∀ b o, (∃ vs, o.data = .fields vs) → h7.get? b = some o → b ≠ L := fun b o hd e => nsf_ne F7 e hd
    clear F6 N6
    rw [q10]
    ktr_unf
    with_reducible rename Fr _ _ _ _ => F9
    with_reducible rename News _ _ _ _ => N9
    have hk9 := kept_of hF7k hG8 F9 N9 (fun p hp => List.Mem.tail _ hp)
    have hN := N9 _ (.head _)
    rename_i r9 _ l9
    have h7L : ∀ b o, (∃ vs, o.data = .fields vs) → h7.get? b = some o → _ := fun b o hd e => hk9 b o e (by simp) (hF7n b o hd e)
    refine hret r9 _ _ (fun b o q1 q2 e => hk9 b o (hs7 b o e q1 q2) (by simp) (fun z => by rw [z, hBL] at e; cases e)) (tb51.keep h7L) (tb7.keep h7L) ?_ (TupII.mk hN.2.2 hN.1 rfl rfl)
    have hf9 : h7.get? r9 = none := by
      cases q : h7.get? r9 with
      | none => rfl
      | some o => exact absurd (l9 _ (hG8 r9 o q (by simp) hN.2.1 hN.2.2)) (Nat.lt_irrefl _)
    cases q : σ.get? r9 with
    | none => rfl
    | some o =>
      have h1 : r9 ≠ 51 := fun z => by
        obtain ⟨_, ps, g, _⟩ := tb51
        rw [← z, hf9] at g; cases g
      have h2 : r9 ≠ 58 := fun z => by
        obtain ⟨_, ps, g, _⟩ := tb7
        rw [← z, hf9] at g; cases g
      have := hs7 _ _ q h1 h2
      rw [hf9] at this; cases this
end
end

section
theorem startIdm : True := by
  w_top off
  trivial
set_option maxHeartbeats 1000000
section
theorem idm_pos {prog : Program} {w : World} {σ : Heap} {σg : Array GenState} {σd : Drawn} {σt : Nat} {σo : OsState} {Q E : Value → Shared → Prop} {p : Program} {loose : List Str} {mean : ExcName → Option Value} {mg mb : Str → Option Value} {hT : Heap}
    {dp un : Nat} {fr : Option (List Env)} {gd : Option (List Code)} {a b : Int} {ta tb : Tok}
    (X : (hd.heap_39 w.params).In hT) (T : Top p loose mean mg mb hT) (hK : On hT σ) (hdp : dp + 270 < recursionLimit) (hun : un + 1400 < cLine)
    (ha : 0 ≤ a) (hb : 0 < b) (hba : Builtin.Int.intBits a ≤ 60) (hbb : Builtin.Int.intBits b ≤ 60)
    (C51 : CodeHd hT 55 51) (t51 : Tab hT σ 51 q51 pos51) (C58 : CodeHd hT 62 58) (t58 : Tab hT σ 58 q58 pos58)
    (hret : ∀ r h' tk', KeptB σ h' → Tab hT h' 51 q51 pos51 → Tab hT h' 58 q58 pos58 → σ.get? r = none → TupII hT h' r (a / b) (a % b) → Q (.ref r) ⟨h', σg, σd, tk', σo⟩) :
    wpAny (model prog w) { handled := none, depth := dp, frames := fr, guards := gd, units := un } (call (.ref 77) [.int a ta, .int b tb]) Q E ⟨σ, σg, σd, σt, σo⟩ := by
  have hfill : Fill Mine.hd.heap_39 PySem.Challenge.rw_ul0003_01 := by (k_fill; trivial)
  refine' enterG X T hK ?k6 ?k7 ?k8 ?k9 ?kB ?_ ?c2 ?c3 ?c4 ?c5
  (case k6 => k_is); (case k7 => k_is); (case k8 => ktr_room); (case k9 => exact BindsTo.of_eq rfl); (case c5 => decide); (case kB => exact locs rfl); (case c2 => exact rfl); (case c3 => exact rfl); (case c4 => exact rfl)
  intro G L h₁ tk₁ hG hGs hGL hExt hBL F N hE1
  try dsimp only
  obtain ⟨hT51, ps51, g51, _⟩ := id t51
  obtain ⟨hT58, ps58, g58, _⟩ := id t58
  ktr_unf
  all_goals try omega
  with_reducible rename Fr _ _ _ _ => F1
  refine' dmp_call X T ?z1 ?z2 ?z3 ha hb hba hbb C51 ?z6 C58 ?z7 ?_
  (case z6 => exact t51.keep (fun b o _ e => hE1 b o e))
  (case z7 => exact t58.keep (fun b o _ e => hE1 b o e))
  (case z1 => exact On.of F1)
  (case z2 => ktr_room)
  (case z3 => (show un + 3 + 1300 < _; omega))
  intro r h2 tk2 k2 t51' t58' f2 l2
  refine hret r h2 _ (fun b o q1 q2 e => k2 b o q1 q2 (hE1 b o e)) t51' t58' ?_ l2
  cases q : σ.get? r with
  | none => rfl
  | some o =>
    have e : h₁.get? r = none := f2
    rw [hE1 r o q] at e; cases e
theorem Fr_kb {hT h h' : Heap} {L : Addr} {m : Str → Option Value} (F : Fr hT L h m) (k : KeptB h h') (h1 : hT.get? 51 = none) (h2 : hT.get? 58 = none) (h3 : (51 : Addr) ≠ L) (h4 : (58 : Addr) ≠ L) : Fr hT L h' m := by
  obtain ⟨oL, es, ep, g, r⟩ := F.ns
  exact ⟨⟨oL, es, ep, k _ _ (Ne.symm h3) (Ne.symm h4) g, r⟩, fun b o e => k b o (fun q => by rw [q, h1] at e; cases e) (fun q => by rw [q, h2] at e; cases e) (F.keep b o e), F.above⟩
theorem idm_neg {prog : Program} {w : World} {σ : Heap} {σg : Array GenState} {σd : Drawn} {σt : Nat} {σo : OsState} {Q E : Value → Shared → Prop} {p : Program} {loose : List Str} {mean : ExcName → Option Value} {mg mb : Str → Option Value} {hT : Heap}
    {dp un : Nat} {fr : Option (List Env)} {gd : Option (List Code)} {a b : Int} {ta tb : Tok}
    (X : (hd.heap_39 w.params).In hT) (T : Top p loose mean mg mb hT) (hK : On hT σ) (hdp : dp + 280 < recursionLimit) (hun : un + 1450 < cLine)
    (ha : a ≤ 0) (hb : b < 0) (hba : Builtin.Int.intBits (-a) ≤ 60) (hbb : Builtin.Int.intBits (-b) ≤ 60)
    (C51 : CodeHd hT 55 51) (t51 : Tab hT σ 51 q51 pos51) (C58 : CodeHd hT 62 58) (t58 : Tab hT σ 58 q58 pos58)
    (hret : ∀ r h' tk', KeptB σ h' → Tab hT h' 51 q51 pos51 → Tab hT h' 58 q58 pos58 → σ.get? r = none → TupII hT h' r (-a / -b) (-(-a % -b)) → Q (.ref r) ⟨h', σg, σd, tk', σo⟩) :
    wpAny (model prog w) { handled := none, depth := dp, frames := fr, guards := gd, units := un } (call (.ref 77) [.int a ta, .int b tb]) Q E ⟨σ, σg, σd, σt, σo⟩ := by
  have hfill : Fill Mine.hd.heap_39 PySem.Challenge.rw_ul0003_01 := by (k_fill; trivial)
  refine' enterG X T hK ?k6 ?k7 ?k8 ?k9 ?kB ?_ ?c2 ?c3 ?c4 ?c5
  (case k6 => k_is); (case k7 => k_is); (case k8 => ktr_room); (case k9 => exact BindsTo.of_eq rfl); (case c5 => decide); (case kB => exact locs rfl); (case c2 => exact rfl); (case c3 => exact rfl); (case c4 => exact rfl)
  intro G L h₁ tk₁ hG hGs hGL hExt hBL F N hE1
  try dsimp only
  obtain ⟨hT51, ps51, g51, _⟩ := id t51
  obtain ⟨hT58, ps58, g58, _⟩ := id t58
  have h51L : (51 : Addr) ≠ L := fun q => by rw [q, hBL] at g51; cases g51
  have h58L : (58 : Addr) ≠ L := fun q => by rw [q, hBL] at g58; cases g58
  ktr_unf
  all_goals try omega
  with_reducible rename Fr _ _ _ _ => F1
  refine' idm_pos X T ?z1 ?z2 ?z3 ?z4 ?z5 hba hbb C51 ?z6 C58 ?z7 ?_
  (case z6 => exact t51.keep (fun b o _ e => hE1 b o e))
  (case z7 => exact t58.keep (fun b o _ e => hE1 b o e))
  (case z1 => exact On.of F1)
  (case z2 => ktr_room)
  (case z3 => (show un + 3 + 1400 < _; omega))
  (case z4 => omega)
  (case z5 => omega)
  intro r h2 tk2 k2 t51' t58' f2 l2
  have hs2 : ∀ b o, b ≠ 51 → b ≠ 58 → σ.get? b = some o → h2.get? b = some o := fun b o q1 q2 e => k2 b o q1 q2 (hE1 b o e)
  have F2 := Fr_kb F1 k2 hT51 hT58 h51L h58L
  have hF7k := F2.keep
  have hF7n : ∀ b o, (∃ vs, o.data = .fields vs) → h2.get? b = some o → b ≠ L := fun b o hd e => nsf_ne F2 e hd
  clear F1 k2
  obtain ⟨hTr, t1, t2, n, gr⟩ := l2
  have hrL : r ≠ L := ns_ne F2 gr rfl
  obtain ⟨G1, N1, hG1, -, hG1L⟩ := led_all F2 []
  have mr := hG1 _ _ gr (by simp) hrL hTr
  ktr_unf
  with_reducible rename Fr _ _ _ _ => F9
  with_reducible rename News _ _ _ _ => N9
  have hN := N9 _ (.head _)
  rename_i r9 _ l9
  have hk9 := kept_of hF7k hG1 F9 N9 (fun p hp => List.Mem.tail _ hp)
  have h7L : ∀ b o, (∃ vs, o.data = .fields vs) → h2.get? b = some o → _ := fun b o hd e => hk9 b o e (by simp) (hF7n b o hd e)
  refine hret r9 _ _ (fun b o q1 q2 e => hk9 b o (hs2 b o q1 q2 e) (by simp) (fun z => by rw [z, hBL] at e; cases e)) (t51'.keep h7L) (t58'.keep h7L) ?_ (TupII.mk hN.2.2 hN.1 rfl rfl)
  have hf9 : h2.get? r9 = none := by
    cases q : h2.get? r9 with
    | none => rfl
    | some o => exact absurd (l9 _ (hG1 r9 o q (by simp) hN.2.1 hN.2.2)) (Nat.lt_irrefl _)
  cases q : σ.get? r9 with
  | none => rfl
  | some o =>
    have h1 : r9 ≠ 51 := fun z => by
      obtain ⟨_, ps, g, _⟩ := t51'
      rw [← z, hf9] at g; cases g
    have h3 : r9 ≠ 58 := fun z => by
      obtain ⟨_, ps, g, _⟩ := t58'
      rw [← z, hf9] at g; cases g
    have := hs2 _ _ h1 h3 q
    rw [hf9] at this; cases this
end
end

section
theorem startAp : True := by
  w_top off
  trivial
local macro_rules | `(tactic| walk_at "idle") => `(tactic| skip)
set_option maxHeartbeats 1000000
/-- the letters of a number, highest first, none ahead that is A -/
def ApOf (N : Int) (ks : List Int) : Prop := ∃ j : Nat, N < 16 ^ j ∧ (∀ i, j = i + 1 → 16 ^ i ≤ N) ∧ ks = ((dgs 16 j N).map (65 + ·)).reverse
abbrev apL : List Int := [65, 66, 67, 68, 69, 70, 71, 72, 73, 74, 75, 76, 77, 78, 79, 80]
theorem div16_lt {x : Int} (h0 : 0 ≤ x) (h1 : x ≠ 0) : (x / 16).toNat < x.toNat := by omega
theorem apL_cut {d : Int} (h0 : 0 ≤ d) (h1 : d < 16) : (apL.drop (clipAt apL.length d)).take (clipAt apL.length (d + 1) - clipAt apL.length d) = [65 + d] := by
  obtain ⟨n, rfl⟩ := Int.eq_ofNat_of_zero_le h0
  exact (by decide +kernel : ∀ n < 16, (apL.drop (clipAt apL.length (n : Nat))).take (clipAt apL.length ((n : Nat) + 1) - clipAt apL.length (n : Nat)) = [65 + ((n : Nat) : Int)]) n (Int.ofNat_lt.mp h1)
theorem dgs_snoc {b : Int} (hb : 0 < b) (j : Nat) (x : Int) (h0 : 0 ≤ x) : dgs b (j + 1) x = dgs b j x ++ [x / b ^ j % b] := by
  have e : dgs b j (x % b ^ j) = dgs b j x := by
    clear h0
    induction j generalizing x with
    | zero => rfl
    | succ j ih =>
      have hp : (0 : Int) < b ^ j := Int.pow_pos hb
      rw [dgs, dgs]
      have e1 : x % b ^ (j + 1) % b = x % b := by
        rw [Int.pow_succ]
        exact Int.emod_emod_of_dvd x (Int.dvd_mul_left ..)
      have e2 : x % b ^ (j + 1) / b = x / b % b ^ j := by
        have h1 := Int.emod_add_mul_ediv x (b ^ (j + 1))
        have h3 : x / b ^ (j + 1) = x / b / b ^ j := by rw [Int.pow_succ, Int.mul_comm, Int.ediv_ediv_of_nonneg (Int.le_of_lt hb)]
        have h2 := Int.emod_add_mul_ediv (x / b) (b ^ j)
        have h4 : x / b = x % b ^ (j + 1) / b + b ^ j * (x / b / b ^ j) := by
          rw [← h3]
          have h5 : x % b ^ (j + 1) = x - b * (b ^ j * (x / b ^ (j + 1))) := by
            rw [Int.pow_succ, Int.mul_comm (b ^ j) b, Int.mul_assoc] at h1
            rw [Int.pow_succ, Int.mul_comm (b ^ j) b]
            omega
          rw [h5, Int.sub_mul_ediv_left _ _ (Int.ne_of_gt hb)]
          omega
        omega
      rw [e1, e2, ih]
  rw [dgs_split hb j 1 x, e]
  rfl
section
theorem ap_call {prog : Program} {w : World} {σ : Heap} {σg : Array GenState} {σd : Drawn} {σt : Nat} {σo : OsState} {Q E : Value → Shared → Prop} {p : Program} {loose : List Str} {mean : ExcName → Option Value} {mg mb : Str → Option Value} {hT : Heap}
    {dp un : Nat} {fr : Option (List Env)} {gd : Option (List Code)} {a : Int} {ta : Tok}
    (X : (hd.heap_39 w.params).In hT) (T : Top p loose mean mg mb hT) (hK : On hT σ) (hdp : dp + 50 < recursionLimit) (hun : un + 500 < cLine)
    (habs : Builtin.Int.intBits (a.natAbs : Int) ≤ 60)
    (hret : ∀ b t h' tk' ks, Ext σ h' → KBw.bInts b = ks → ApOf a.natAbs ks → Q (.bytes b t) ⟨h', σg, σd, tk', σo⟩) :
    wpAny (model prog w) { handled := none, depth := dp, frames := fr, guards := gd, units := un } (call (.ref 84) [.int a ta]) Q E ⟨σ, σg, σd, σt, σo⟩ := by
  have hfill : Fill Mine.hd.heap_39 PySem.Challenge.rw_ul0003_01 := by (k_fill; trivial)
  refine' enterG X T hK ?k6 ?k7 ?k8 ?k9 ?kB ?_ ?c2 ?c3 ?c4 ?c5
  (case k6 => k_is); (case k7 => k_is); (case k8 => ktr_room); (case k9 => exact BindsTo.of_eq rfl); (case c5 => decide); (case kB => exact locs rfl); (case c2 => exact rfl); (case c3 => exact rfl); (case c4 => exact rfl)
  intro G L h₁ tk₁ hG hGs hGL hExt hBL F N hE1
  try dsimp only
  ktr_unf
  with_reducible rename Fr _ _ _ _ => F1
  with_reducible rename News _ _ _ _ => N1
  have habse : (if a < 0 then -a else a) = (a.natAbs : Int) := by split <;> omega
  rw [habse] at F1
  refine while_loop (hT := hT) (L := L) (fun k m' h' => ∃ x tx b tb tA ks j, m' (Str.ofString "num") = some (.int x tx) ∧ m' (Str.ofString "val") = some (.bytes b tb) ∧ m' (Str.ofString "AP") = some (.bytes #[65, 66, 67, 68, 69, 70, 71, 72, 73, 74, 75, 76, 77, 78, 79, 80] tA) ∧ Ext σ h' ∧
    KBw.bInts b = ks ∧ ks = ((dgs 16 j a.natAbs).map (65 + ·)).reverse ∧ x = (a.natAbs : Int) / 16 ^ j ∧ (∀ i, j = i + 1 → 16 ^ i ≤ (a.natAbs : Int)) ∧ k = x.toNat ∧ 0 ≤ x) a.natAbs F1 ?_ ?_
  · refine ⟨_, _, #[], _, _, [], 0, rfl, rfl, rfl, ?_, rfl, rfl, ?_, ?_, ?_, ?_⟩
    · exact hExt _ _ _ F1 N1 (fun p hp => hp)
    · simp
    · intro i hi; omega
    · omega
    · omega
  · rintro k m h tk ⟨x, tx, b, tb, tA, ks, j, q1, q2, q3, eB, q5, q6, q7, q8, q9, q10⟩ F2 K₂ hK₂
    replace F2 := Fr_names [(Str.ofString "num", .int x tx), (Str.ofString "val", .bytes b tb), (Str.ofString "AP", .bytes #[65, 66, 67, 68, 69, 70, 71, 72, 73, 74, 75, 76, 77, 78, 79, 80] tA)] F2 (by
      intro p hp
      simp only [List.mem_cons, List.not_mem_nil, or_false] at hp
      rcases hp with rfl | rfl | rfl <;> assumption)
    have N2 : News hT L h G := fun p hp => ⟨eB _ _ (hGs p hp).1, Nat.ne_of_lt (hGL p hp), (hGs p hp).2⟩
    clear F1 N1
    have hjb : j ≤ 16 := by
      cases j with
      | zero => omega
      | succ i =>
        have h1 := q8 i rfl
        have h2 := intBits_le_iff.mp habs
        rw [Int.natAbs_natCast] at h2
        have h3 : (16 : Nat) ^ i ≤ a.natAbs := by
          have : ((16 ^ i : Nat) : Int) ≤ (a.natAbs : Int) := by push_cast; exact h1
          omega
        have h4 : ¬ 15 ≤ i := fun h => by
          have h5 : (16 : Nat) ^ 15 ≤ 16 ^ i := Nat.pow_le_pow_right (by decide) h
          have h6 : (16 : Nat) ^ 15 = 2 ^ 60 := by decide
          omega
        omega
    have hksl : ks.length = j := by rw [q6, List.length_reverse, List.length_map, dgs_length]
    have hbs : b.size = j := by rw [← KBw.ints_length, q5, hksl]
    have hp : (0 : Int) < 16 ^ j := Int.pow_pos (by decide)
    ktr_unf
    · with_reducible rename Fr _ _ _ _ => F3
      with_reducible rename News _ _ _ _ => N3
      have hm0 := Int.emod_nonneg x (by decide : (16 : Int) ≠ 0)
      have hm1 := Int.emod_lt_of_pos x (by decide : (0 : Int) < 16)
      have hm : x.fmod 16 = x % 16 := Int.fmod_eq_emod_of_nonneg x (by decide)
      have hd : x.fdiv 16 = x / 16 := Int.fdiv_eq_ediv_of_nonneg x (by decide)
      have hcut := apL_cut hm0 hm1
      rw [← hm] at hcut
      refine KBc.slice_K (s := ⟨_, _, _, _, _⟩) (ks := apL) F3 N3 rfl (.int _ _) (.int _ _) (by decide) ?_
      intro h4 t4 tk4 F4 N4 hpk
      have hpk' : KBw.bInts (KBy.picked #[65, 66, 67, 68, 69, 70, 71, 72, 73, 74, 75, 76, 77, 78, 79, 80] (some (x.fmod 16)) (some (x.fmod 16 + 1))) = [65 + x.fmod 16] := hpk.trans hcut
      have hps : (KBy.picked #[65, 66, 67, 68, 69, 70, 71, 72, 73, 74, 75, 76, 77, 78, 79, 80] (some (x.fmod 16)) (some (x.fmod 16 + 1))).size = 1 := by rw [← KBw.ints_length, hpk']; rfl
      clear F3 N3 hpk
      generalize (KBy.picked #[65, 66, 67, 68, 69, 70, 71, 72, 73, 74, 75, 76, 77, 78, 79, 80] (some (x.fmod 16)) (some (x.fmod 16 + 1))) = pk at *
      try dsimp only
      ktr_unf
      with_reducible rename Fr _ _ _ _ => F5
      with_reducible rename News _ _ _ _ => N5
      with_reducible rename KBw.bInts (pk ++ b) = _ => hpb
      have hxne : x ≠ 0 := by assumption
      have hE5 := hExt _ _ _ F5 N5 (fun p hp => .tail _ hp)
      have hdiv : (a.natAbs : Int) / 16 ^ (j + 1) = x / 16 := by rw [Int.pow_succ, ← Int.ediv_ediv_of_nonneg (Int.le_of_lt hp), ← q7]
      refine hK₂ _ _ _ (x / 16).toNat F5 (by rw [q9]; exact div16_lt q10 hxne) ⟨x.fdiv 16, _, pk ++ b, _, tA, _, j + 1, rfl, rfl, rfl, hE5, hpb, ?_, ?_, ?_, ?_, ?_⟩
      · rw [q6, dgs_snoc (by decide) j _ (by omega), List.map_append, List.reverse_append, ← q7, hm]
        rfl
      · rw [hd, hdiv]
      · intro i hi
        have hi' : j = i := by omega
        subst hi'
        have h1 := Int.emod_add_mul_ediv (a.natAbs : Int) (16 ^ j)
        have h2 := Int.emod_nonneg (a.natAbs : Int) (Int.ne_of_gt hp)
        rw [← q7] at h1
        have h3 : 16 ^ j * 1 ≤ 16 ^ j * x := Int.mul_le_mul_of_nonneg_left (by omega) (Int.le_of_lt hp)
        omega
      · rw [hd]
      · rw [hd]; omega
    · have hx0 : x = 0 := by first | assumption | omega
      refine hret b tb h tk ks eB q5 ⟨j, ?_, q8, q6⟩
      have h1 := Int.emod_add_mul_ediv (a.natAbs : Int) (16 ^ j)
      rw [← q7, hx0] at h1
      have := Int.emod_lt_of_pos (a.natAbs : Int) hp
      omega
end
end

section
theorem startDraws : True := by
  w_top off
  trivial
local macro_rules | `(tactic| walk_at "idle") => `(tactic| skip)
set_option maxHeartbeats 1000000
theorem off1_ne {D : Addr} : ∀ {l : List (Addr × Obj)}, LCg.Off1 D l → ∀ p ∈ l, p.1 ≠ D
  | [], _, _, h => nomatch h
  | _ :: _, x, p, h => by
    rcases List.mem_cons.mp h with rfl | h
    · exact x.1
    · exact off1_ne x.2 p h
section
variable {prog : Program} {w : World} {A : Around} {σ : Heap} {σg : Array GenState} {σd : Drawn} {σt : Nat} {σo : OsState} {Q E : Value → Shared → Prop} {h₀ : Heap} {L : Addr} {m : Str → Option Value} {news : List (Addr × Obj)}
theorem sum_any {l : Addr} {items : Array Value} {ns : List Int} (hh : A.handled = none) (F : Fr h₀ L σ m) (N : News h₀ L σ news) (hl : σ.IsList l items) (hi : IntsAre items.toList ns)
    (h : ∀ h' tk t', Fr h₀ L h' m → News h₀ L h' news → Q (.int ns.sum t') ⟨h', σg, σd, tk, σo⟩) : wpAny (model prog w) A (call (.builtin "sum") [.ref l]) Q E ⟨σ, σg, σd, σt, σo⟩ := by
  have ha : AllInts items := hi.allInts
  obtain ⟨xs, hx⟩ := ha.items
  have hn : numsOf items.toList = ns := hi.numsOf
  rw [hx] at hl hn
  refine sum_intListG hh hl fun h' tk t' hk => ?_
  rw [preSum_eq, List.take_of_length_le (by simp)]
  rw [nums_intItems] at hn
  rw [hn]
  exact h h' tk t' (F.keptAll hk) (N.grown hk)
end
section
local macro_rules | `(tactic| walk_at "call builtin:sum") => `(tactic| ((with_reducible rename Fr _ _ _ _ => F9); (with_reducible rename News _ _ _ _ => N9); (refine sum_any rfl F9 N9 (News.isList N9 (.head _)) (IntsAre.pick (by assumption) _ _ _) ?_); intro h9 tk9 t9 F9 N9))
theorem draws_call {prog : Program} {w : World} {σ : Heap} {σg : Array GenState} {σd : Drawn} {σt : Nat} {σo : OsState} {Q E : Value → Shared → Prop} {p : Program} {loose : List Str} {mean : ExcName → Option Value} {mg mb : Str → Option Value} {hT : Heap}
    {dp un : Nat} {fr : Option (List Env)} {gd : Option (List Code)} {sc : Addr} {ns : List Int}
    (X : (hd.heap_39 w.params).In hT) (T : Top p loose mean mg mb hT) (hK : On hT σ) (hdp : dp + 50 < recursionLimit) (hun : un + 500 < cLine)
    (hsc : ∃ vs, hT.IsList sc (List.toArray vs) ∧ IntsAre vs ns) (hlen : ns.length ≤ 63)
    (hret : ∀ r h' tk' ds, Ext σ h' → σ.get? r = none → ds.length = 9 → (∀ x ∈ ds, 0 ≤ x ∧ x < 1000000) → LI hT h' r ds → Q (.ref r) ⟨h', σg, σd, tk', σo⟩) :
    wpAny (model prog w) { handled := none, depth := dp, frames := fr, guards := gd, units := un } (call (.ref 89) [.ref sc]) Q E ⟨σ, σg, σd, σt, σo⟩ := by
  have hfill : Fill Mine.hd.heap_39 PySem.Challenge.rw_ul0003_01 := by (k_fill; trivial)
  refine' enterC X T hK ?k6 ?k7 ?k8 ?k9 ?kB ?kD ?_ ?c2 ?c3 ?c4
  (case k6 => k_is); (case k7 => k_is); (case k8 => ktr_room); (case k9 => exact BindsTo.of_eq rfl); (case kB => exact rfl); (case kD => decide +kernel); (case c2 => exact rfl); (case c3 => exact rfl); (case c4 => exact rfl)
  intro G L h₁ tk₁ cells LO F N Y hE1
  try dsimp only
  obtain ⟨o1, o2, hE, d1, d2⟩ := CellsAre.two Y
  subst hE
  clear Y
  replace d1 : o1.data = .cell none := d1
  replace d2 : o2.data = .cell (some (.ref sc)) := d2
  have hGc : ∀ k, ∀ p ∈ G, p.1 ≠ L + k := fun k p hp => Nat.ne_of_lt (Nat.lt_of_lt_of_le (LO.under _ hp) (Nat.le_add_right _ _))
  have hG1 : ∀ p ∈ G, p.1 ≠ L + 1 := hGc 1
  have hG2 : ∀ p ∈ G, p.1 ≠ L + 1 + 1 := hGc 2
  try simp only [List.cons_append, List.nil_append] at N
  obtain ⟨vs, hl, hvs⟩ := hsc
  ktr_unf
  with_reducible rename Fr _ _ _ _ => F9
  with_reducible rename News _ _ _ _ => N9
  with_reducible rename IntsAre _ (List.map _ _) => i9
  rename_i D _ _ o9
  have hN := N9 _ (.head _)
  refine hret D _ _ _ (LO.ext hK F9 N9 (fun p hp => .tail _ (.tail _ (.tail _ (.tail _ hp))))) ?_ ?_ ?_ ⟨hN.2.2, _, _, hN.1, i9⟩
  · cases q : σ.get? D with
    | none => rfl
    | some o => exact absurd rfl (off1_ne o9.2.2.2 _ (LO.into D o q hN.2.2))
  · rw [List.length_map, rangeKs_length]; rfl
  · intro x hx
    obtain ⟨k, _, rfl⟩ := List.mem_map.mp hx
    rw [Int.fmod_eq_emod_of_nonneg _ (by decide)]
    exact ⟨Int.emod_nonneg _ (by decide), Int.emod_lt_of_pos _ (by decide)⟩
end
end

section
theorem startPairs : True := by
  w_top off
  trivial
set_option maxHeartbeats 1000000
/-- the pairs' list while it grows -/
def PrAll (hT : Heap) (ex : List Addr) (h : Heap) (vs : List Value) (ps : List (Int × Int)) : Prop :=
  vs.length = ps.length ∧ ∀ i, i < ps.length → ∃ b, vs[i]? = some (.ref b) ∧ LI hT h b [(ps.getD i (0, 0)).1, (ps.getD i (0, 0)).2] ∧ b ∉ ex
theorem PrAll.keep {hT h h' : Heap} {ex ex' : List Addr} {vs : List Value} {ps : List (Int × Int)} (x : PrAll hT ex h vs ps) (k : ∀ b o, (∃ xs n, o.data = .seq xs n) → b ∉ ex → h.get? b = some o → h'.get? b = some o) (hx : ∀ b ∈ ex', b ∈ ex) : PrAll hT ex' h' vs ps :=
  ⟨x.1, fun i hi => let ⟨b, e1, e2, e3⟩ := x.2 i hi
    ⟨b, e1, e2.mono fun o g => k _ _ (by obtain ⟨_, vs, n, g', _⟩ := e2; rw [g'] at g; cases g; exact ⟨_, _, rfl⟩) e3 g, fun q => e3 (hx _ q)⟩⟩
theorem PrAll.snoc {hT h : Heap} {ex : List Addr} {vs : List Value} {ps : List (Int × Int)} (x : PrAll hT ex h vs ps) {b : Addr} {l r : Int} (a4 : LI hT h b [l, r]) (a5 : b ∉ ex) : PrAll hT ex h (vs ++ [.ref b]) (ps ++ [(l, r)]) := by
  refine ⟨by simp [x.1], fun i hi => ?_⟩
  rw [List.length_append, List.length_singleton] at hi
  by_cases q : i < ps.length
  · obtain ⟨b', e1, e2, e3⟩ := x.2 i q
    refine ⟨b', ?_, ?_, e3⟩
    · rw [List.getElem?_append_left (by rw [x.1]; exact q)]; exact e1
    · have : (ps ++ [(l, r)]).getD i (0, 0) = ps.getD i (0, 0) := by rw [List.getD, List.getD, List.getElem?_append_left q]
      rw [this]; exact e2
  · have e : i = ps.length := by omega
    subst e
    refine ⟨b, ?_, ?_, a5⟩
    · rw [← x.1]; simp
    · have : (ps ++ [(l, r)]).getD ps.length (0, 0) = (l, r) := by simp [List.getD]
      rw [this]; exact a4
/-- each half of a pair is a letter or a pair ahead of it -/
def POK (al : List Int) (ps : List (Int × Int)) : Prop := ∀ k, k < ps.length → ((ps.getD k (0, 0)).1 ∈ al ∨ 256 ≤ (ps.getD k (0, 0)).1 ∧ (ps.getD k (0, 0)).1 < 256 + k) ∧ ((ps.getD k (0, 0)).2 ∈ al ∨ 256 ≤ (ps.getD k (0, 0)).2 ∧ (ps.getD k (0, 0)).2 < 256 + k)
theorem POK.snoc {al : List Int} {ps : List (Int × Int)} (x : POK al ps) {l r : Int} (hl : l ∈ al ∨ 256 ≤ l ∧ l < 256 + ps.length) (hr : r ∈ al ∨ 256 ≤ r ∧ r < 256 + ps.length) : POK al (ps ++ [(l, r)]) := by
  intro k hk
  rw [List.length_append, List.length_singleton] at hk
  by_cases q : k < ps.length
  · have : (ps ++ [(l, r)]).getD k (0, 0) = ps.getD k (0, 0) := by rw [List.getD, List.getD, List.getElem?_append_left q]
    rw [this]; exact x k q
  · have e : k = ps.length := by omega
    subst e
    have : (ps ++ [(l, r)]).getD ps.length (0, 0) = (l, r) := by simp [List.getD]
    rw [this]; exact ⟨hl, hr⟩
section
theorem pairs_call {prog : Program} {w : World} {σ : Heap} {σg : Array GenState} {σd : Drawn} {σt : Nat} {σo : OsState} {Q E : Value → Shared → Prop} {p : Program} {loose : List Str} {mean : ExcName → Option Value} {mg mb : Str → Option Value} {hT : Heap}
    {dp un : Nat} {fr : Option (List Env)} {gd : Option (List Code)} {oc nu : Addr} {os ms : List Int}
    (X : (hd.heap_39 w.params).In hT) (T : Top p loose mean mg mb hT) (hK : On hT σ) (hdp : dp + 50 < recursionLimit) (hun : un + 500 < cLine)
    (hoc : LI hT σ oc os) (hnu : LI hT σ nu ms) (hos : 0 < os.length) (hos2 : os.length ≤ 10) (hms : ms.length ≤ 10)
    (hret : ∀ r h' tk' ps, Ext σ h' → σ.get? r = none → ps.length = ms.length → POK os ps → PairsAt hT h' r ps → Q (.ref r) ⟨h', σg, σd, tk', σo⟩) :
    wpAny (model prog w) { handled := none, depth := dp, frames := fr, guards := gd, units := un } (call (.ref 94) [.ref oc, .ref nu]) Q E ⟨σ, σg, σd, σt, σo⟩ := by
  have hfill : Fill Mine.hd.heap_39 PySem.Challenge.rw_ul0003_01 := by (k_fill; trivial)
  refine' enterG X T hK ?k6 ?k7 ?k8 ?k9 ?kB ?_ ?c2 ?c3 ?c4 ?c5
  (case k6 => k_is); (case k7 => k_is); (case k8 => ktr_room); (case k9 => exact BindsTo.of_eq rfl); (case c5 => decide); (case kB => exact locs rfl); (case c2 => exact rfl); (case c3 => exact rfl); (case c4 => exact rfl)
  intro G L h₁ tk₁ hG hGs hGL hExt hBL F N hE1
  try dsimp only
  obtain ⟨hTo, voc, noc, goc, ioc⟩ := id hoc
  obtain ⟨hTn, vnu, nnu, gnu, inu⟩ := id hnu
  have mo := hG _ _ goc hTo
  have mn := hG _ _ gnu hTn
  have hvo := ioc.length
  have hvn := inu.length
  ktr_unf
  with_reducible rename Fr _ _ _ _ => F1
  with_reducible rename News _ _ _ _ => N1
  rename_i D _ l1 hw
  have hD := N1 _ (.head _)
  have hf1 := fresh_of hG hD.2.2 l1
  have hw1 : Ext σ hw := hExt _ _ _ F1 N1 (fun p hp => .tail _ hp)
  refine for_range (hT := hT) (L := L) σ rfl rfl rfl rfl (fun i m' h' => ∃ vo no ps, m' (Str.ofString "pairs") = some (.ref D) ∧ m' (Str.ofString "octets") = some (.ref oc) ∧ m' (Str.ofString "numbers") = some (.ref nu) ∧ h'.get? D = some (listOf (List.toArray vo) no) ∧ ps.length = i ∧ POK os ps ∧ PrAll hT [D] h' vo ps) 0 ms.length (by decide) (by decide) (by omega) hBL ?_ ?_ ?_ ?_
  · rintro i m h h' ⟨vo, no, ps, q1, q2, q3, q4, q5, q6, q7⟩ k
    exact ⟨vo, no, ps, q1, q2, q3, k _ _ ⟨_, _, rfl⟩ q4, q5, q6, q7.keep (fun b o hd _ e => k b o hd e) (fun _ h => h)⟩
  · ktr_unf
    with_reducible rename Fr _ _ _ _ => F4
    with_reducible rename News _ _ _ _ => N4
    refine RangeAt.intro (by assumption) ?_ F4 (hExt _ _ _ F4 N4 (fun p hp => .tail _ hp)) ⟨[], 0, [], rfl, rfl, rfl, (N4 _ (.head _)).1, rfl, (fun k hk => by cases hk), rfl, (fun i hi => by cases hi)⟩
    simp [hvn]
  · rintro i m h tk it oit t hi ⟨vo, no, ps, q1, q2, q3, q4, q5, q6, q7⟩ eB F3 hit hitf hitT hitB hitL K₁ hK₁
    obtain ⟨G3, N3, hs3, hG3, hne, hk3, hE3⟩ := turn_led F3 eB hGs hBL [D] (fun b hb => by rw [List.mem_singleton.mp hb]; exact hf1)
    have hneD : ∀ p ∈ G3, p.1 ≠ D := fun p hp e => hne p hp (by rw [e]; exact .head _)
    replace N3 := News_cons N3 q4 hD.2.1 hD.2.2
    have mo3 := hs3 _ mo
    have hvo2 := q7.1
    have hitD : @Ne Nat it D := fun q => by
      obtain ⟨_, hf⟩ := hitf
      have q' : it = D := q
      rw [q', q4] at hit; cases hit; cases hf
    have hnL : ∀ b o, (∃ xs n, o.data = .seq xs n) → h.get? b = some o → b ≠ L := fun b o ⟨_, _, hd⟩ e => ns_ne F3 e hd
    have mn3 := hs3 _ mn
    replace F3 := Fr_names [(Str.ofString "k", .int (0 + (i : Int)) t), (Str.ofString "pairs", .ref D), (Str.ofString "octets", .ref oc), (Str.ofString "numbers", .ref nu)] F3 (by
      intro p hp
      simp only [List.mem_cons, List.not_mem_nil, or_false] at hp
      rcases hp with rfl | rfl | rfl | rfl
      · simp
      · exact q1
      · exact q2
      · exact q3)
    clear F1 N1
    ktr_unf
    with_reducible rename Fr _ _ _ _ => F5
    with_reducible rename News _ _ _ _ => N5
    with_reducible rename IntsAre _ (List.map _ _) => i5
    rename_i D5 _ _ o5
    have e5 : (0 + (i : Int) - 0).toNat = i := by omega
    rw [e5] at i5
    refine kmk_add_ints F5 N5 (News.isList N5 (.tail _ (.tail _ mo3))) (News.isList N5 (.head _)) ioc i5 ?_ (by rw [sizeLine_eq, List.length_map, rangeKs_length]; omega)
    intro D6 us h6 F6 N6 l6 i6
    have hkn : ∀ x ∈ os ++ List.map (fun k' => 256 + k') (rangeKs 0 i), x ∈ os ∨ 256 ≤ x ∧ x < 256 + ps.length := by
      intro x hx
      rcases List.mem_append.mp hx with hx | hx
      · exact .inl hx
      · obtain ⟨k, hk, rfl⟩ := List.mem_map.mp hx
        have := mem_rangeKs hk
        right
        omega
    have hkl : us.length = os.length + i := by rw [i6.length, List.length_append, List.length_map, rangeKs_length]
    have hkl2 : (os ++ List.map (fun k' => 256 + k') (rangeKs 0 i)).length = os.length + i := by rw [List.length_append, List.length_map, rangeKs_length]
    generalize os ++ List.map (fun k' => 256 + k') (rangeKs 0 i) = kn at *
    have n6 : @Ne Nat D6 D := Nat.ne_of_gt (l6 _ (.tail _ (.head _)))
    have hDD : hT.get? D6 = none := (N6 _ (.head _)).2.2
    clear F5 N5 i5
    k_lt l6
    have hM : (0 : Int) < (os.length + i : Nat) := by omega
    ktr_unf
    with_reducible rename Fr _ _ _ _ => F7
    with_reducible rename News _ _ _ _ => N7
    have hP1 := (N7 _ (.head _)).1
    have hP2 := (N7 _ (.tail _ (.tail _ (.tail _ (.head _))))).1
    have hE7 := hE3 _ _ _ F7 N7 (fun p hp => .tail _ (.tail _ (.tail _ (.tail _ hp))))
    have hkk := hk3 _ _ _ F7 N7 (fun p hp => .tail _ (.tail _ (.tail _ (.tail _ hp))))
    rw [hkl2] at hP1
    have hgk : ∀ z : Int, kn.getD (z.fmod ((os.length + i : Nat) : Int)).toNat 0 ∈ os ∨ 256 ≤ kn.getD (z.fmod ((os.length + i : Nat) : Int)).toNat 0 ∧ kn.getD (z.fmod ((os.length + i : Nat) : Int)).toNat 0 < 256 + ps.length := fun z => by
      refine hkn _ ?_
      have h1 : 0 ≤ z.fmod ((os.length + i : Nat) : Int) := Int.fmod_nonneg_of_pos z hM
      have h2 : z.fmod ((os.length + i : Nat) : Int) < ((os.length + i : Nat) : Int) := Int.fmod_lt_of_pos z hM
      have h3 : (z.fmod ((os.length + i : Nat) : Int)).toNat < kn.length := by rw [hkl2]; exact (Int.toNat_lt h1).mpr h2
      rw [List.getD, List.getElem?_eq_getElem h3]
      exact List.getElem_mem h3
    refine hK₁ _ _ _ F7 hE7 (hkk _ _ hit (notin1 hitD) hitL) ⟨_, _, ps ++ [(kn.getD ((ms.getD (0 + (i : Int)).toNat 0).fmod ((os.length + i : Nat) : Int)).toNat 0, kn.getD (((ms.getD (0 + (i : Int)).toNat 0).fdiv ((os.length + i : Nat) : Int)).fmod ((os.length + i : Nat) : Int)).toNat 0)], rfl, rfl, rfl, hP2, ?_, q6.snoc (hgk _) (hgk _), ?_⟩
    · simp [q5]
    · refine PrAll.snoc (q7.keep (fun b o hd hb e => hkk b o e hb ?_) (fun _ h => h)) ⟨(N7 _ (.head _)).2.2, _, _, hP1, .cons _ _ (.cons _ _ .nil)⟩ (notin1 (by k_ne))
      exact hnL b o hd e
  · rintro m h tk ⟨vo, no, ps, q1, q2, q3, q4, q5, q6, q7⟩ eB F3
    try dsimp only
    replace F3 := Fr_names [(Str.ofString "pairs", .ref D)] F3 (by
      intro p hp
      simp only [List.mem_cons, List.not_mem_nil, or_false] at hp
      rcases hp with rfl
      exact q1)
    ktr_unf
    exact hret D h _ ps eB hf1 q5 q6 ⟨hD.2.2, vo, no, q4, q7.1, fun i hi => let ⟨b, e1, e2, _⟩ := q7.2 i hi; ⟨b, e1, e2⟩⟩
end
end

section
def lawDef : Stmt := (PySem.Challenge.pw_ul0003_01.main.body.getLast?).getD (.Pass ⟨0, 0, 0, 0⟩)
def lawBody : List Stmt := match lawDef with
  | .FunctionDef _ _ b _ _ _ _ _ _ _ => b
  | _ => []
def lawScope : Scope := match lawDef with
  | .FunctionDef _ _ _ _ _ _ sc _ _ _ => sc
  | _ => ⟨.function, [], false, false, []⟩
def loopBody : List Stmt := match lawBody.drop 11 with
  | .For _ _ b _ _ :: _ => b
  | _ => []
section
variable {w : World} {A : Around} {s : Shared} {Q : Flow → Shared → Prop} {E : Value → Shared → Prop} {env : Env}
theorem bodyx (L fa : Addr) (cd : Value) (h : wpAny (model PySem.Challenge.rw_ul0003_01.row.prog w) A (execs loopBody (envOfC (Str.ofString "law") lawScope L fa cd)) Q E s) : wpAny (model PySem.Challenge.rw_ul0003_01.row.prog w) A (execs loopBody (envOfC (Str.ofString "law") lawScope L fa cd)) Q E s := by
  generalize hb : loopBody = bd at h ⊢
  generalize hs : lawScope = sc at h ⊢
  conv at hb => lhs; whnf
  conv at hs => lhs; whnf
  subst hb hs
  trace_state
  exact h
end
end

section
set_option maxHeartbeats 1000000
/-- a cell that the run has made -/
def CellIs (hT h : Heap) (a : Addr) (v : Value) : Prop := hT.get? a = none ∧ ∃ o, h.get? a = some o ∧ o.data = .cell (some v)
theorem CellIs.keep {hT h h' : Heap} {a : Addr} {v : Value} (x : CellIs hT h a v) (k : ∀ o, h.get? a = some o → h'.get? a = some o) : CellIs hT h' a v := let ⟨t, o, g, d⟩ := x; ⟨t, o, k o g, d⟩
/-- a list of tuples of an int and a list of ints -/
def StAt (hT h : Heap) (a : Addr) (st : List (Int × List Int)) : Prop := hT.get? a = none ∧ ∃ vs n, h.get? a = some (listOf (List.toArray vs) n) ∧ StAll hT [] h vs st
theorem PairsAt.toIn2 {hT h : Heap} {G : List (Addr × Obj)} {a : Addr} {ps : List (Int × Int)} (x : PairsAt hT h a ps) (hG : ∀ b o, (∃ xs n, o.data = .seq xs n) → h.get? b = some o → hT.get? b = none → (b, o) ∈ G) : PairsIn G a ps :=
  let ⟨t, vs, n, g, hl, hi⟩ := x
  ⟨vs, n, hG _ _ ⟨_, _, rfl⟩ g t, hl, fun i lt => let ⟨b, hb, tb, vb, nb, gb, ib⟩ := hi i lt; ⟨b, vb, nb, hb, hG _ _ ⟨_, _, rfl⟩ gb tb, ib⟩⟩
/-- the letters of the word -/
def letrs (hi lo : Int) : List Int := if lo = hi then [65 + hi] else [65 + hi, 65 + lo]
theorem letrs_len (hi lo : Int) : (letrs hi lo).length ≤ 2 := by unfold letrs; split <;> simp
theorem letrs_mem {hi lo x : Int} : x ∈ letrs hi lo ↔ x = 65 + hi ∨ x = 65 + lo := by
  unfold letrs; split
  · subst lo; simp
  · simp
theorem POK.wf {al : List Int} {ps : List (Int × Int)} (x : POK al ps) (ha : ∀ y ∈ al, y < 256) : WF ps := fun k hk => by
  obtain ⟨h1, h2⟩ := x k hk
  constructor
  · rcases h1 with h1 | h1
    · have := ha _ h1; omega
    · omega
  · rcases h2 with h2 | h2
    · have := ha _ h2; omega
    · omega
end

section
set_option maxHeartbeats 1000000
/-- what the law has made ahead of its loop, on a ledger -/
structure Base (hT hB : Heap) (L : Addr) (GB : List (Addr × Obj)) (rd wd pa st td : Addr) (ds word : List Int) (ps : List (Int × Int)) (sts : List (Int × List Int)) : Prop where
  gs : ∀ p ∈ GB, hB.get? p.1 = some p.2 ∧ hT.get? p.1 = none
  into : ∀ b o, hB.get? b = some o → hT.get? b = none → (b, o) ∈ GB
  bL : hB.get? L = none
  b51 : hB.get? 51 = none
  b58 : hB.get? 58 = none
  btd : hB.get? td = none
  cell : ∃ o, (L + 1, o) ∈ GB ∧ o.data = .cell (some (.ref rd))
  rdm : ∃ vs n, (rd, listOf (List.toArray vs) n) ∈ GB ∧ IntsAre vs ds
  wdm : ∃ vs n, (wd, listOf (List.toArray vs) n) ∈ GB ∧ IntsAre vs word
  pam : PairsIn GB pa ps
  stm : ∃ vs n, (st, listOf (List.toArray vs) n) ∈ GB ∧ StAll hT [] hB vs sts
/-- what stands in the midst of a turn -/
structure MidS (hT hB h : Heap) (it : Addr) (oit : Obj) (td : Addr) (tl : List (Int × List Int)) : Prop where
  eB : Ext hB h
  hit : h.get? it = some oit
  t51 : Tab hT h 51 q51 pos51
  t58 : Tab hT h 58 q58 pos58
  tT : hT.get? td = none
  tdl : ∃ vs n, h.get? td = some (listOf (List.toArray vs) n) ∧ StAll hT [td] h vs tl
/-- the loop's own iterator -/
structure ItOk (hT hB : Heap) (L it : Addr) (oit : Obj) : Prop where
  d : ∃ a b c, oit.data = .fields #[rawInt a, rawInt b, rawInt c]
  iT : hT.get? it = none
  iB : hB.get? it = none
  iL : it ≠ L
section
variable {hT hB h h' : Heap} {L it td : Addr} {oit : Obj} {m : Str → Option Value} {tl : List (Int × List Int)} {GB : List (Addr × Obj)}
theorem ItOk.ne (I : ItOk hT hB L it oit) {P : Addr} {q : Str} {pos : Pos} (e : h.get? it = some oit) (t : Tab hT h P q pos) : it ≠ P := fun z => by
  obtain ⟨_, ps, g, c⟩ := t
  obtain ⟨a, b, c', hd⟩ := I.d
  rw [z, g] at e; cases e
  cases hd
  rcases c with q | ⟨c1, oc, vs, t, e1, e2, e3, e4, e5⟩
  · simp at q
  · simp [rawInt] at e1
theorem MidS.keep (M : MidS hT hB h it oit td tl) (F : Fr hT L h m) (I : ItOk hT hB L it oit) (bL : hB.get? L = none) (k : ∀ b o, b ≠ L → h.get? b = some o → h'.get? b = some o) : MidS hT hB h' it oit td tl := by
  obtain ⟨e1, e2, e3, e4, e5, vs, n, e6, e7⟩ := M
  refine ⟨fun b o e => k b o (fun q => by rw [q, bL] at e; cases e) (e1 b o e), k _ _ I.iL e2, e3.keep (fun b o hd e => k b o (nsf_ne F e hd) e), e4.keep (fun b o hd e => k b o (nsf_ne F e hd) e), e5, vs, n, k _ _ (ns_ne F e6 rfl) e6, e7.keep (fun b o hd _ e => ?_) (fun _ h => h)⟩
  obtain ⟨_, _, hd⟩ := hd
  exact k b o (ns_ne F e hd) e
theorem MidS.ext (M : MidS hT hB h it oit td tl) (k : Ext h h') : MidS hT hB h' it oit td tl := by
  obtain ⟨e1, e2, e3, e4, e5, vs, n, e6, e7⟩ := M
  exact ⟨fun b o e => k b o (e1 b o e), k _ _ e2, e3.keep (fun b o _ e => k b o e), e4.keep (fun b o _ e => k b o e), e5, vs, n, k _ _ e6, e7.keep (fun b o _ _ e => k b o e) (fun _ h => h)⟩
theorem MidS.keepB (M : MidS hT hB h it oit td tl) (I : ItOk hT hB L it oit) (b51 : hB.get? 51 = none) (b58 : hB.get? 58 = none) (k : KeptB h h') (t51 : Tab hT h' 51 q51 pos51) (t58 : Tab hT h' 58 q58 pos58) : MidS hT hB h' it oit td tl := by
  obtain ⟨e1, e2, e3, e4, e5, vs, n, e6, e7⟩ := M
  have ks : ∀ b o, (∃ xs n, o.data = .seq xs n) → h.get? b = some o → h'.get? b = some o := fun b o ⟨_, _, hd⟩ e => k b o (fun z => by
    obtain ⟨_, ps, g, _⟩ := e3
    rw [z, g] at e; cases e; cases hd) (fun z => by
    obtain ⟨_, ps, g, _⟩ := e4
    rw [z, g] at e; cases e; cases hd) e
  exact ⟨fun b o e => k b o (fun q => by rw [q, b51] at e; cases e) (fun q => by rw [q, b58] at e; cases e) (e1 b o e), k _ _ (I.ne e2 e3) (I.ne e2 e4) e2, t51, t58, e5, vs, n, ks _ _ ⟨_, _, rfl⟩ e6, e7.keep (fun b o hd _ e => ks b o hd e) (fun _ h => h)⟩
/-- a ledger over all that stands, what the base holds on it -/
theorem MidS.led (M : MidS hT hB h it oit td tl) (F : Fr hT L h m) (bL : hB.get? L = none) (hGs : ∀ p ∈ GB, hB.get? p.1 = some p.2 ∧ hT.get? p.1 = none) :
    ∃ G, News hT L h G ∧ (∀ p ∈ GB, p ∈ G) ∧ (∀ b o, h.get? b = some o → b ≠ L → hT.get? b = none → (b, o) ∈ G) ∧
      (∀ h' m' led, Fr hT L h' m' → News hT L h' led → (∀ p ∈ G, p ∈ led) → ∀ b o, b ≠ L → h.get? b = some o → h'.get? b = some o) := by
  obtain ⟨G, N, hG, -, -⟩ := led_all F []
  refine ⟨G, N, fun p hp => ?_, fun b o e hL ht => hG b o e (by simp) hL ht, fun h' m' led F' N' hs b o hL e => kept_of F.keep hG F' N' hs b o e (by simp) hL⟩
  obtain ⟨g1, g2⟩ := hGs p hp
  exact hG _ _ (M.eB _ _ g1) (by simp) (fun q => by rw [q, bL] at g1; cases g1) g2
end
/-- what the plain law says of the word, the pairs and the standing symbols -/
structure Pl (ps : List (Int × Int)) (word : List Int) (sts : List (Int × List Int)) (tl : Nat → List (Int × List Int)) : Prop where
  W : WF ps
  pl : ps.length = 4
  tls : ∀ i, tl (i + 1) = tl i ++ [(Pk ps (word.take (i + 1)), Bf ps (word.take (i + 1)))]
  get : ∀ i b, b ≤ i → (tl i)[b]? = some (Pk ps (word.take b), Bf ps (word.take b))
  len : ∀ i, (tl i).length = i + 1
  one : ∀ c, 0 < c → c ≤ word.length → sts.filterMap (sel ps word c) = [(Pk ps (word.take c), Bf ps (word.take c))]
  bfl : ∀ b, (Bf ps (word.take b)).length ≤ 256
  each : ∀ e ∈ sts, 0 < e.2.length ∧ e.2.length ≤ 256
  stl : sts.length ≤ 100
  dig : ∀ c, ∀ x ∈ Jn ps (word.take c), 0 < x ∧ x < 512
/-- the loop's invariant -/
def LJ (hT : Heap) (wd pa st td : Addr) (sz : Nat) (tS : Tok) (nm : Int) (tN : Tok) (tl : Nat → List (Int × List Int)) (i : Nat) (m : Str → Option Value) (h : Heap) : Prop :=
  m (Str.ofString "size") = some (.int (sz : Nat) tS) ∧ m (Str.ofString "word") = some (.ref wd) ∧ m (Str.ofString "pairs") = some (.ref pa) ∧ m (Str.ofString "standing") = some (.ref st) ∧
  m (Str.ofString "number") = some (.int nm tN) ∧ m (Str.ofString "told") = some (.ref td) ∧ Tab hT h 51 q51 pos51 ∧ Tab hT h 58 q58 pos58 ∧ ∃ vs n, h.get? td = some (listOf (List.toArray vs) n) ∧ StAll hT [td] h vs (tl i)
end

section
theorem letrs_nodup {hi lo : Int} (h1 : 65 + hi < 256) (h2 : 65 + lo < 256) : (letrs hi lo ++ [256, 257, 258, 259]).Nodup := by
  unfold letrs
  split
  · simp; omega
  · rename_i q
    simp
    refine ⟨⟨?_, ?_⟩, ?_⟩ <;> omega
theorem tld_get (ps : List (Int × Int)) (word : List Int) (i b : Nat) (h : b ≤ i) : (tld ps word i)[b]? = some (Pk ps (word.take b), Bf ps (word.take b)) := by
  unfold tld
  rw [List.getElem?_map, List.getElem?_range (by omega)]
  rfl
theorem pl_of {ps : List (Int × Int)} {fg : List Int} {hi lo : Int} (hhi : 1 ≤ hi ∧ hi ≤ 15) (hlo : 0 ≤ lo ∧ lo ≤ 15) (hfb : ∀ x ∈ fg, x = hi ∨ x = lo) (hpok : POK [65 + hi, 65 + lo] ps) (hpl : ps.length = 4) :
    Pl ps (fg.map fun k => 65 + k) (stand ps (letrs hi lo ++ [256, 257, 258, 259])) (tld ps (fg.map fun k => 65 + k)) := by
  have W : WF ps := hpok.wf (by intro y hy; simp at hy; omega)
  have hw : ∀ x ∈ fg.map (fun k : Int => 65 + k), x = 65 + hi ∨ x = 65 + lo := by
    intro x hx
    obtain ⟨k, hk, rfl⟩ := List.mem_map.mp hx
    rcases hfb k hk with rfl | rfl
    · exact .inl rfl
    · exact .inr rfl
  have hsy : ∀ x ∈ letrs hi lo ++ [256, 257, 258, 259], (x = 65 + hi ∨ x = 65 + lo) ∨ (256 ≤ x ∧ x < 260) := by
    intro x hx
    rcases List.mem_append.mp hx with hx | hx
    · exact .inl (letrs_mem.mp hx)
    · right; simp at hx; omega
  have o : Oct (fg.map fun k => 65 + k) := fun x hx => by rcases hw x hx with rfl | rfl <;> omega
  have hv : ∀ x ∈ letrs hi lo ++ [256, 257, 258, 259], Vd ps x := fun x hx => by
    unfold Vd; rw [hpl]
    rcases hsy x hx with (rfl | rfl) | q <;> omega
  have hsp : ∀ x, Vd ps x → (sp ps x).length ≤ 256 := fun x v => by
    have h1 := sp_len_le ps ps.length x v
    rw [hpl] at h1
    omega
  refine ⟨W, hpl, fun i => ?_, fun i b h => tld_get _ _ _ _ h, fun i => ?_, fun c h0 hc => ?_, fun b => ?_, fun e he => ?_, ?_, fun c x hx => ?_⟩
  · unfold tld
    rw [List.range_succ, List.map_append]; rfl
  · unfold tld
    rw [List.length_map, List.length_range]
  · refine here_one W o (fun x hx => by rcases hw x hx with rfl | rfl <;> omega) (by omega) (letrs_nodup (by omega) (by omega)) hv ?_ h0 hc
    intro x hx
    rcases hx with hx | hx
    · exact List.mem_append_left _ (letrs_mem.mpr (hw x hx))
    · refine List.mem_append_right _ ?_
      rw [hpl] at hx
      have : x = 256 ∨ x = 257 ∨ x = 258 ∨ x = 259 := by omega
      rcases this with rfl | rfl | rfl | rfl <;> simp
  · unfold Bf
    split
    · exact Nat.zero_le _
    · rename_i t ht
      exact hsp t (Jn_vd (fun q hq => o q (List.mem_of_mem_take hq)) (List.mem_of_getLast? ht))
  · obtain ⟨h1, h2, h3⟩ := stand_mem he
    rw [h3]
    exact ⟨sp_pos' W (hv _ h1), hsp _ (hv _ h1)⟩
  · refine Nat.le_trans (stand_len ..) ?_
    have := letrs_len hi lo
    rw [List.length_append]
    simp only [List.length_cons, List.length_nil]
    omega
  · rcases Jto_mem _ hx with q | q
    · rcases hw x (List.mem_of_mem_take q) with rfl | rfl <;> omega
    · omega
end

section
theorem startT7 : True := by
  w_top off
  trivial
set_option maxHeartbeats 1000000
theorem tup_of {hT h : Heap} {L b c : Addr} {y : Int} {t : Tok} {news : List (Addr × Obj)} (N : News hT L h news) (hm : (b, tupOf y t c) ∈ news) : IsTup h b (List.toArray [Value.int y t, .ref c]) := ⟨_, (N _ hm).1, rfl, _, rfl⟩
section
local macro_rules | `(tactic| walk_at "subscriptTail") => `(tactic| ((with_reducible rename News _ _ _ _ => N9); refine item_tupleT (tup_of N9 (by news_mem)) (by decide) (by decide) rfl rfl ?_))
theorem turn_7 {w : World} {σ : Heap} {σg : Array GenState} {σd : Drawn} {σt : Nat} {σo : OsState} {Q : Flow → Shared → Prop} {p : Program} {loose : List Str} {mean : ExcName → Option Value} {mg mb : Str → Option Value} {hT hB : Heap} {L fa : Addr} {cd : Value} {m : Str → Option Value} {GB : List (Addr × Obj)}
    {dp un : Nat} {fr : Option (List Env)} {gd : Option (List Code)} {rd wd pa st td it : Addr} {oit : Obj} {ds fg : List Int} {ps : List (Int × Int)} {sts : List (Int × List Int)} {sz i : Nat} {tS tN tC : Tok} {nm : Int} {tl : Nat → List (Int × List Int)}
    (X : (hd.heap_39 w.params).In hT) (T : Top p loose mean mg mb hT) (hdp : dp + 400 < recursionLimit) (hun : un + 2500 < cLine) (C51 : CodeHd hT 55 51) (C58 : CodeHd hT 62 58)
    (B : Base hT hB L GB rd wd pa st td ds (fg.map fun k => 65 + k) ps sts) (I : ItOk hT hB L it oit) (F : Fr hT L σ m) (M : MidS hT hB σ it oit td (tl i))
    (m1 : m (Str.ofString "size") = some (.int (sz : Nat) tS)) (m2 : m (Str.ofString "word") = some (.ref wd)) (m3 : m (Str.ofString "pairs") = some (.ref pa)) (m4 : m (Str.ofString "standing") = some (.ref st))
    (m5 : m (Str.ofString "number") = some (.int nm tN)) (m6 : m (Str.ofString "told") = some (.ref td)) (m7 : m (Str.ofString "cut") = some (.int ((i + 1 : Nat) : Int) tC))
    (h5 : 5 ≤ sz) (h8 : sz ≤ 8) (hi1 : i < sz) (hfl : fg.length = sz) (hdl : ds.length = 9) (PL : Pl ps (fg.map fun k => 65 + k) sts tl) (hQ : ∀ h' tk' m', Fr hT L h' m' → Ext hB h' → h'.get? it = some oit → LJ hT wd pa st td sz tS nm tN tl (i + 1) m' h' → Q .next ⟨h', σg, σd, tk', σo⟩) {fo D : Addr} {vh : List Value} {nh : Nat}
    (m8 : m (Str.ofString "front") = some (.ref fo)) (hfo : LI hT σ fo ((fg.map fun k => 65 + k).take (i + 1)))
    (m9 : m (Str.ofString "here") = some (.ref D)) (hDT : hT.get? D = none) (hD : σ.get? D = some (listOf (List.toArray vh) nh))
    (hDtd : D ≠ td) (hSt : StAll hT [D, td] σ vh [(Pk ps ((fg.map fun k => 65 + k).take (i + 1)), Bf ps ((fg.map fun k => 65 + k).take (i + 1)))]) :
    wpAny (model PySem.Challenge.rw_ul0003_01.row.prog w) { handled := none, depth := dp, frames := fr, guards := gd, units := un } (execs (loopBody.drop 7 ) (envOfC (Str.ofString "law") lawScope L fa cd)) Q (fun _ _ => False) ⟨σ, σg, σd, σt, σo⟩ := by
  have hfill : Fill Mine.hd.heap_39 PySem.Challenge.rw_ul0003_01 := by (k_fill; trivial)
  generalize hbo : loopBody.drop 7 = bo
  generalize hsc : lawScope = sc
  conv at hbo => lhs; whnf
  conv at hsc => lhs; whnf
  subst hbo hsc
  obtain ⟨G, N, hsG, hG, hk⟩ := M.led F B.bL B.gs
  have hM : ∀ h', (∀ b o, b ≠ L → σ.get? b = some o → h'.get? b = some o) → MidS hT hB h' it oit td (tl i) := fun h' k => M.keep F I B.bL k
  have hnl : ∀ b o, (∃ xs n, o.data = .seq xs n) → σ.get? b = some o → b ≠ L := fun b o ⟨_, _, hd⟩ e => ns_ne F e hd
  obtain ⟨fT, fv, fn, fgt, fi⟩ := id hfo
  have mf := hG _ _ fgt (ns_ne F fgt rfl) fT
  have mD := hG _ _ hD (ns_ne F hD rfl) hDT
  obtain ⟨b0, c0, y0, t0, os0, rfl, hy0, bT, b9, bg, cg, c9⟩ : ∃ b c y t os, vh = [.ref b] ∧ (y, os) = (Pk ps ((fg.map fun k => 65 + k).take (i + 1)), Bf ps ((fg.map fun k => 65 + k).take (i + 1))) ∧ hT.get? b = none ∧ b ∉ [D, td] ∧ σ.get? b = some (tupOf y t c) ∧ LI hT σ c os ∧ c ∉ [D, td] := by
    cases hSt with
    | cons a b c d e f =>
      cases f
      exact ⟨_, _, _, _, _, rfl, rfl, a, b, c, d, e⟩
  cases hy0
  have mb := hG _ _ bg (ns_ne F bg rfl) bT
  have hpi := B.pam.mono hsG
  replace F := Fr_names [(Str.ofString "size", .int (sz : Nat) tS), (Str.ofString "word", .ref wd), (Str.ofString "pairs", .ref pa), (Str.ofString "standing", .ref st), (Str.ofString "number", .int nm tN), (Str.ofString "told", .ref td), (Str.ofString "cut", .int ((i + 1 : Nat) : Int) tC), (Str.ofString "front", .ref fo), (Str.ofString "here", .ref D)] F (by
      intro p hp
      simp only [List.mem_cons, List.not_mem_nil, or_false] at hp
      rcases hp with rfl | rfl | rfl | rfl | rfl | rfl | rfl | rfl | rfl <;> assumption)
  have hml : (List.map (fun k : Int => 65 + k) fg).length = sz := by rw [List.length_map, hfl]
  have htl : ((List.map (fun k : Int => 65 + k) fg).take (i + 1)).length = i + 1 := by rw [List.length_take, hml]; omega
  generalize hwd : List.map (fun k : Int => 65 + k) fg = word at *
  have hjl : (Jn ps (word.take (i + 1))).length ≤ 8 := by
    have := Jto_length ps (word.take (i + 1)) ps.length
    show (Jto ps (word.take (i + 1)) ps.length).length ≤ 8
    omega
  have hl1 : [Value.ref b0].length = 1 := rfl
  have h00 : [Value.ref b0][Int.toNat 0]? = some (Value.ref b0) := rfl
  have hpl := PL.pl
  have hdg := PL.dig (i + 1)
  have hPk : Pk ps (word.take (i + 1)) = dval 512 (Jn ps (word.take (i + 1))).reverse := rfl
  (repeat' (first | (refine' nameX_C ?zN ?zc ?zm ?zd ?_ ?za ?zb; (case za => rfl); (case zb => rfl); (case zN => assumption); (case zc => rfl); (case zm => news_mem); (case zd => assumption)) | (((fail_if_success (with_reducible show wpAny _ _ (exec (Stmt.While _ _ _ _) _) _ _ _)); (fail_if_success (with_reducible show wpAny _ _ (exec (Stmt.For _ _ _ _ _) _) _ _ _)); (first | walk1 | (dsimp only; walk1))))))
  with_reducible rename Fr _ _ _ _ => F1
  with_reducible rename News _ _ _ _ => N1
  refine' joined_call X T (On.of F1) ?w1 ?w2 hfo (PairsIn.at N1 hpi) (by omega) (by omega) ?_
  (case w1 => ktr_room)
  (case w2 => ktr_units)
  intro r h1 tk1 e1 f1 ⟨rT, rv, rn, rg, ri⟩
  replace F1 := Fr.ext F1 e1
  replace N1 := News_cons (News.ext N1 e1) rg (ns_ne F1 rg rfl) rT
  clear e1 f1
  generalize hJ : Jn ps (word.take (i + 1)) = J at *
  have hrl := ri.length
  have hsub1 : ∀ p ∈ G, p ∈ (r, listOf (List.toArray rv) rn) :: G := fun p hp => .tail _ hp
  (repeat' (first | (refine' nameX_C ?zN ?zc ?zm ?zd ?_ ?za ?zb; (case za => rfl); (case zb => rfl); (case zN => assumption); (case zc => rfl); (case zm => news_mem); (case zd => assumption)) | (((fail_if_success (with_reducible show wpAny _ _ (exec (Stmt.While _ _ _ _) _) _ _ _)); (fail_if_success (with_reducible show wpAny _ _ (exec (Stmt.For _ _ _ _ _) _) _ _ _)); (first | walk1 | (dsimp only; walk1))))))
  with_reducible rename Fr _ _ _ _ => F2
  with_reducible rename News _ _ _ _ => N2
  with_reducible rename IntsAre _ J.reverse => i2
  have M2 := hM _ (hk _ _ _ F2 N2 (fun p hp => .tail _ (.tail _ hp)))
  obtain ⟨_, ps58, g58, _⟩ := id M2.t58
  have h58L : (58 : Addr) ≠ L := nsf_ne F2 g58 ⟨_, rfl⟩
  refine' d2i_call (n := 9) X T (On.of F2) ?w3 ?w4 ⟨(N2 _ (.head _)).2.2, _, _, (N2 _ (.head _)).1, i2⟩ ?w5 (by decide) ?w6 C58 M2.t58 ?_
  (case w3 => ktr_room)
  (case w4 => ktr_units)
  (case w5 => (rw [List.length_reverse]; omega))
  (case w6 => (intro x hx; have := hdg x (List.mem_reverse.mp hx); exact ⟨Int.le_of_lt this.1, this.2⟩))
  intro t3 h3 tk3 k3 tb3
  have tb51 := M2.t51.other M2.t58 (by decide) k3
  have M3 := M2.keepB I B.b51 B.b58 (fun b o _ q e => k3 b o q e) tb51 tb3
  have F3 := Fr_but F2 k3 M2.t58.1 h58L
  have kD : h3.get? D = some (listOf (List.toArray [Value.ref b0]) nh) := k3 _ _ (fun q => by
    have e := (N2 _ (.tail _ (.tail _ mD))).1
    dsimp only at e
    rw [q, g58] at e; cases e) (N2 _ (.tail _ (.tail _ mD))).1
  have ks3 : ∀ b o, (∃ xs n, o.data = .seq xs n) → σ.get? b = some o → h3.get? b = some o := fun b o hd e => k3 b o (fun q => by
    have e' := hk _ _ _ F2 N2 (fun p hp => .tail _ (.tail _ hp)) b o (hnl b o hd e) e
    obtain ⟨_, _, hd⟩ := hd
    rw [q, g58] at e'; cases e'; cases hd) (hk _ _ _ F2 N2 (fun p hp => .tail _ (.tail _ hp)) b o (hnl b o hd e) e)
  have kb := ks3 _ _ ⟨_, _, rfl⟩ bg
  have kc := cg.mono (fun o e => ks3 _ _ (by obtain ⟨_, vs, n, g, _⟩ := cg; rw [g] at e; cases e; exact ⟨_, _, rfl⟩) e)
  clear F2 N2 i2
  have F3k := F3.keep
  have hnl3 : ∀ b o, (∃ xs n, o.data = .seq xs n) → h3.get? b = some o → b ≠ L := fun b o ⟨_, _, hd⟩ e => ns_ne F3 e hd
  have hnf3 : ∀ b o, (∃ vs, o.data = .fields vs) → h3.get? b = some o → b ≠ L := fun b o hd e => nsf_ne F3 e hd
  have hcL : c0 ≠ L := kc.ne F3
  obtain ⟨G3, N3, hG3, hG3x, -⟩ := led_all F3 [td]
  obtain ⟨vt, nt, gt, St⟩ := M3.tdl
  have hitL := I.iL
  have hit3 := M3.hit
  have tdL : td ≠ L := ns_ne F3 gt rfl
  have hneD : ∀ p ∈ G3, p.1 ≠ td := fun p hp e => (hG3x p hp).1 (by rw [e]; exact .head _)
  have mD3 := hG3 _ _ kD (notin1 hDtd) (ns_ne F3 kD rfl) hDT
  have mb3 := hG3 _ _ kb (fun q => b9 (by rw [List.mem_singleton.mp q]; exact .tail _ (.head _))) (ns_ne F3 kb rfl) bT
  replace N3 := News_cons N3 gt tdL M3.tT
  have hvt := St.length
  have htln := PL.len i
  have hPk' : dval (2 ^ 9) J.reverse = Pk ps (word.take (i + 1)) := by rw [hPk]; rfl
  rw [hPk']
  (repeat' (first | (refine' nameX_C ?zN ?zc ?zm ?zd ?_ ?za ?zb; (case za => rfl); (case zb => rfl); (case zN => assumption); (case zc => rfl); (case zm => news_mem); (case zd => assumption)) | (((fail_if_success (with_reducible show wpAny _ _ (exec (Stmt.While _ _ _ _) _) _ _ _)); (fail_if_success (with_reducible show wpAny _ _ (exec (Stmt.For _ _ _ _ _) _) _ _ _)); (first | walk1 | (dsimp only; walk1))))))
  · with_reducible rename Fr _ _ _ _ => F4
    with_reducible rename News _ _ _ _ => N4
    have k4 := kept_of F3k hG3 F4 N4 (fun p hp => .tail _ hp)
    have k4f : ∀ b o, (∃ vs, o.data = .fields vs) → h3.get? b = some o → _ := fun b o hd e => k4 b o e (notin1 (fun q => by
      obtain ⟨_, hd⟩ := hd
      have q' : b = td := q
      rw [q', gt] at e; cases e; cases hd)) (hnf3 b o hd e)
    refine hQ _ _ _ F4 (fun b o e => k4 b o (M3.eB b o e) (notin1 (fun q => ?_)) (fun q => ?_)) (k4f _ _ (by obtain ⟨a, b, c, hd⟩ := I.d; exact ⟨_, hd⟩) hit3) ⟨rfl, rfl, rfl, rfl, rfl, rfl, tb51.keep k4f, tb3.keep k4f, _, _, (N4 _ (.head _)).1, ?_⟩
    · have q' : b = td := q
      rw [q', B.btd] at e; cases e
    · rw [q, B.bL] at e; cases e
    · rw [PL.tls]
      refine StAll.snoc (St.keep (fun b o hd hb e => k4 b o e hb (hnl3 b o hd e)) (fun _ h => h)) bT (notin1 (fun q => b9 ?_)) (k4 _ _ kb (notin1 (fun q => b9 ?_)) (hnl3 _ _ ⟨_, _, rfl⟩ kb)) (kc.mono (fun o e => k4 _ _ e (notin1 (fun q => c9 ?_)) hcL)) (notin1 (fun q => c9 ?_))
      all_goals exact .tail _ (by rw [show _ = td from q]; exact .head _)
end
end

section
theorem startT5 : True := by
  w_top off
  trivial
local macro_rules | `(tactic| walk_at "idle") => `(tactic| skip)
set_option maxHeartbeats 1000000
theorem sel_take {f : Int × List Int → Option (Int × List Int)} {sts : List (Int × List Int)} {j : Nat} {e : Int × List Int} (h : sts[j]? = some e) : (sts.take (j + 1)).filterMap f = (sts.take j).filterMap f ++ (f e).toList := by
  rw [List.take_add_one, h, List.filterMap_append]
  cases hf : f e <;> simp [hf]
structure TN (D wd pa st td fo : Addr) (sz : Nat) (tS : Tok) (nm : Int) (tN : Tok) (i : Nat) (tC : Tok) (m' : Str → Option Value) : Prop where
  q1 : m' (Str.ofString "here") = some (.ref D)
  q2 : m' (Str.ofString "size") = some (.int (sz : Nat) tS)
  q3 : m' (Str.ofString "word") = some (.ref wd)
  q4 : m' (Str.ofString "pairs") = some (.ref pa)
  q5 : m' (Str.ofString "standing") = some (.ref st)
  q6 : m' (Str.ofString "number") = some (.int nm tN)
  q7 : m' (Str.ofString "told") = some (.ref td)
  q8 : m' (Str.ofString "cut") = some (.int ((i + 1 : Nat) : Int) tC)
  q9 : m' (Str.ofString "front") = some (.ref fo)
section
local macro_rules | `(tactic| walk_at "assign Tuple") => `(tactic| ((with_reducible rename Fr _ _ _ _ => F9); (with_reducible rename News _ _ _ _ => N9); (refine unpackN_ F9 N9 (tup_of N9 (by news_mem)) rfl rfl rfl ?_); intro h9 F9 N9; (try k_sweep)))
theorem turn_5 {w : World} {σ : Heap} {σg : Array GenState} {σd : Drawn} {σt : Nat} {σo : OsState} {Q : Flow → Shared → Prop} {p : Program} {loose : List Str} {mean : ExcName → Option Value} {mg mb : Str → Option Value} {hT hB : Heap} {L fa : Addr} {cd : Value} {m : Str → Option Value} {GB : List (Addr × Obj)}
    {dp un : Nat} {fr : Option (List Env)} {gd : Option (List Code)} {rd wd pa st td it : Addr} {oit : Obj} {ds fg : List Int} {ps : List (Int × Int)} {sts : List (Int × List Int)} {sz i : Nat} {tS tN tC : Tok} {nm : Int} {tl : Nat → List (Int × List Int)}
    (X : (hd.heap_39 w.params).In hT) (T : Top p loose mean mg mb hT) (hdp : dp + 400 < recursionLimit) (hun : un + 2500 < cLine) (C51 : CodeHd hT 55 51) (C58 : CodeHd hT 62 58)
    (B : Base hT hB L GB rd wd pa st td ds (fg.map fun k => 65 + k) ps sts) (I : ItOk hT hB L it oit) (F : Fr hT L σ m) (M : MidS hT hB σ it oit td (tl i))
    (m1 : m (Str.ofString "size") = some (.int (sz : Nat) tS)) (m2 : m (Str.ofString "word") = some (.ref wd)) (m3 : m (Str.ofString "pairs") = some (.ref pa)) (m4 : m (Str.ofString "standing") = some (.ref st))
    (m5 : m (Str.ofString "number") = some (.int nm tN)) (m6 : m (Str.ofString "told") = some (.ref td)) (m7 : m (Str.ofString "cut") = some (.int ((i + 1 : Nat) : Int) tC))
    (h5 : 5 ≤ sz) (h8 : sz ≤ 8) (hi1 : i < sz) (hfl : fg.length = sz) (hdl : ds.length = 9) (PL : Pl ps (fg.map fun k => 65 + k) sts tl) (hQ : ∀ h' tk' m', Fr hT L h' m' → Ext hB h' → h'.get? it = some oit → LJ hT wd pa st td sz tS nm tN tl (i + 1) m' h' → Q .next ⟨h', σg, σd, tk', σo⟩) {fo : Addr}
    (m8 : m (Str.ofString "front") = some (.ref fo)) (hfo : LI hT σ fo ((fg.map fun k => 65 + k).take (i + 1))) :
    wpAny (model PySem.Challenge.rw_ul0003_01.row.prog w) { handled := none, depth := dp, frames := fr, guards := gd, units := un } (execs (loopBody.drop 5 ) (envOfC (Str.ofString "law") lawScope L fa cd)) Q (fun _ _ => False) ⟨σ, σg, σd, σt, σo⟩ := by
  have hfill : Fill Mine.hd.heap_39 PySem.Challenge.rw_ul0003_01 := by (k_fill; trivial)
  generalize hbo : loopBody.drop 5 = bo
  generalize hsc : lawScope = sc
  conv at hbo => lhs; whnf
  conv at hsc => lhs; whnf
  subst hbo hsc
  obtain ⟨G, N, hsG, hG, hk⟩ := M.led F B.bL B.gs
  have hM : ∀ h', (∀ b o, b ≠ L → σ.get? b = some o → h'.get? b = some o) → MidS hT hB h' it oit td (tl i) := fun h' k => M.keep F I B.bL k
  obtain ⟨fT, fv, fn, fgt, fi⟩ := id hfo
  have hnl : ∀ b o, (∃ xs n, o.data = .seq xs n) → σ.get? b = some o → b ≠ L := fun b o ⟨_, _, hd⟩ e => ns_ne F e hd
  have hfoL : fo ≠ L := ns_ne F fgt rfl
  have mf := hG _ _ fgt hfoL fT
  obtain ⟨vt, nt, gt, St⟩ := M.tdl
  have mt := hG _ _ gt (ns_ne F gt rfl) M.tT
  obtain ⟨stv, stn, mst, stS⟩ := B.stm
  replace mst := hsG _ mst
  have hpi := B.pam.mono hsG
  generalize hNL : [(Str.ofString "size", Value.int (sz : Nat) tS), (Str.ofString "word", .ref wd), (Str.ofString "pairs", .ref pa), (Str.ofString "standing", .ref st), (Str.ofString "number", .int nm tN), (Str.ofString "told", .ref td), (Str.ofString "cut", .int ((i + 1 : Nat) : Int) tC), (Str.ofString "front", .ref fo)] = NL
  have hm0 : ∀ p ∈ NL, m p.1 = some p.2 := by
    intro p hp
    subst hNL
    simp only [List.mem_cons, List.not_mem_nil, or_false] at hp
    rcases hp with rfl | rfl | rfl | rfl | rfl | rfl | rfl | rfl <;> assumption
  replace F := Fr_names NL F hm0
  subst hNL
  (repeat' (first | (refine' nameX_C ?zN ?zc ?zm ?zd ?_ ?za ?zb; (case za => rfl); (case zb => rfl); (case zN => assumption); (case zc => rfl); (case zm => news_mem); (case zd => assumption)) | (((fail_if_success (with_reducible show wpAny _ _ (exec (Stmt.While _ _ _ _) _) _ _ _)); (fail_if_success (with_reducible show wpAny _ _ (exec (Stmt.For _ _ _ _ _) _) _ _ _)); (first | ((with_reducible show wpAny _ _ _ _ _ (Shared.mk _ (Shared.gens _) _ _ _)); dsimp only) | walk1 | (dsimp only; walk1))))))
  with_reducible rename Fr _ _ _ _ => F1
  with_reducible rename News _ _ _ _ => N1
  rename_i D _ l1 hw
  have hD := N1 _ (.head _)
  have hDf : σ.get? D = none := by
    cases q : σ.get? D with
    | none => rfl
    | some o => exact absurd (l1 _ (hG D o q hD.2.1 hD.2.2)) (Nat.lt_irrefl _)
  have hkw := hk _ _ _ F1 N1 (fun p hp => .tail _ hp)
  have hDtd : D ≠ td := fun q => by rw [q, gt] at hDf; cases hDf
  have hBL : (hideAll hw [L, D]).get? L = none := hideAll_none _ (by simp)
  have hBD : (hideAll hw [L, D]).get? D = none := hideAll_none _ (by simp)
  have hin : ∀ p ∈ G, p ∈ All hT [] (hideAll hw [L, D]) := fun p hp => by
    have h1 := N1 p (.tail _ hp)
    exact mem_All.mpr ⟨hideAll_get _ h1.1 (by simp only [List.mem_cons, List.not_mem_nil, or_false, not_or]; exact ⟨h1.2.1, Nat.ne_of_lt (l1 p hp)⟩), by simp, h1.2.2⟩
  have hGs : ∀ p ∈ All hT [] (hideAll hw [L, D]), (hideAll hw [L, D]).get? p.1 = some p.2 ∧ hT.get? p.1 = none := fun p hp => by
    obtain ⟨a, o⟩ := p
    have := mem_All.mp hp
    exact ⟨this.1, this.2.2⟩
  have eB0 : Ext (hideAll hw [L, D]) hw := fun b o e => of_hideAll _ e
  have hfin : ∀ h', Ext (hideAll hw [L, D]) h' → ∀ b o, b ≠ L → σ.get? b = some o → h'.get? b = some o := fun h' x b o hb e => x b o (hideAll_get _ (hkw b o hb e) (by
    simp only [List.mem_cons, List.not_mem_nil, or_false, not_or]
    exact ⟨hb, fun q => by rw [q, hDf] at e; cases e⟩))
  have mst' := hin _ mst
  have hstv := stS.length
  have hst1 := PL.stl
  generalize hf : sel ps (fg.map fun k => 65 + k) (i + 1) = f
  generalize hBe : hideAll hw [L, D] = hB2 at *
  refine for_listT (hT := hT) (L := L) hB2 rfl (fun j m' h' => TN D wd pa st td fo sz tS nm tN i tC m' ∧
    ∃ vh nh, h'.get? D = some (listOf (List.toArray vh) nh) ∧ StAll hT [D, td] h' vh ((sts.take j).filterMap f)) st stn stv hBL ?_ ?_ ?_ ?_ (fun j v hv => let ⟨b, _, _, _, _, e, _⟩ := stS.get j v hv; ⟨b, e⟩)
  · rintro j m h h' ⟨q, vh, nh, q1, q2⟩ k
    exact ⟨q, vh, nh, k _ _ ⟨_, _, rfl⟩ q1, q2.keep (fun b o hd _ e => k b o hd e) (fun _ h => h)⟩
  · (repeat' (first | (refine' nameX_C ?zN ?zc ?zm ?zd ?_ ?za ?zb; (case za => rfl); (case zb => rfl); (case zN => assumption); (case zc => rfl); (case zm => news_mem); (case zd => assumption)) | (((fail_if_success (with_reducible show wpAny _ _ (exec (Stmt.While _ _ _ _) _) _ _ _)); (fail_if_success (with_reducible show wpAny _ _ (exec (Stmt.For _ _ _ _ _) _) _ _ _)); (first | ((with_reducible show wpAny _ _ _ _ _ (Shared.mk _ (Shared.gens _) _ _ _)); dsimp only) | walk1 | (dsimp only; walk1))))))
    with_reducible rename Fr _ _ _ _ => F4
    with_reducible rename News _ _ _ _ => N4
    exact ListAt.intro (eB0 _ _ (hGs _ mst').1) F4 eB0 ⟨⟨rfl, rfl, rfl, rfl, rfl, rfl, rfl, rfl, rfl⟩, [], 0, hD.1, .nil⟩
  · rintro j v m h tk it2 oit2 hv ⟨⟨q1, q2, q3, q4, q5, q6, q7, q8, q9⟩, vh, nh, qD, qS⟩ eB F3 hit2 hitf hitT hitL ha K₁ hK₁
    obtain ⟨G3, N3, hs3, hG3, hne, hk3, hE3⟩ := turn_led F3 eB hGs hBL [D] (fun b hb => by rw [List.mem_singleton.mp hb]; exact hBD)
    have hneD : ∀ p ∈ G3, p.1 ≠ D := fun p hp e => hne p hp (by rw [e]; exact .head _)
    have hsG3 : ∀ p ∈ G, p ∈ G3 := fun p hp => hs3 _ (hin p hp)
    obtain ⟨b, c, y, t, os, rfl, hj, bT, -, bg, cL, -⟩ := stS.get j v hv
    have mb := hsG3 _ (hsG _ (B.into b _ bg bT))
    obtain ⟨cT, cv, cn, cg, ci⟩ := id cL
    have mc := hsG3 _ (hsG _ (B.into c _ cg cT))
    have mf3 := hsG3 _ mf
    have mt3 := hsG3 _ mt
    have hpi3 := hpi.mono hsG3
    obtain ⟨ho0, ho1⟩ := PL.each _ (List.mem_of_getElem? hj)
    dsimp only at ho0 ho1
    have hfil := sel_take (f := f) hj
    replace N3 := News_cons N3 qD hD.2.1 hD.2.2
    replace F3 := Fr_names [(Str.ofString "here", .ref D), (Str.ofString "size", Value.int (sz : Nat) tS), (Str.ofString "word", .ref wd), (Str.ofString "pairs", .ref pa), (Str.ofString "standing", .ref st), (Str.ofString "number", .int nm tN), (Str.ofString "told", .ref td), (Str.ofString "cut", .int ((i + 1 : Nat) : Int) tC), (Str.ofString "front", .ref fo)] F3 (by
      intro p hp
      simp only [List.mem_cons, List.not_mem_nil, or_false] at hp
      rcases hp with rfl | rfl | rfl | rfl | rfl | rfl | rfl | rfl | rfl <;> assumption)
    have hcl := ci.length
    have hfl2 := fi.length
    have hvh := qS.length
    have hml : (List.map (fun k : Int => 65 + k) fg).length = sz := by rw [List.length_map, hfl]
    have htl : ((List.map (fun k : Int => 65 + k) fg).take (i + 1)).length = i + 1 := by rw [List.length_take, hml]; omega
    have hfc : ((sts.take j).filterMap f).length ≤ 100 := Nat.le_trans (List.length_filterMap_le ..) (by rw [List.length_take]; omega)
    have hitD : @Ne Nat it2 D := fun q => by
      obtain ⟨_, hf⟩ := hitf
      have q' : it2 = D := q
      rw [q', qD] at hit2; cases hit2; cases hf
    have hstD : @Ne Nat st D := fun q => by
      have q' : st = D := q
      have := (hGs _ mst').1
      dsimp only at this
      rw [q', hBD] at this; cases this
    have hstL : st ≠ L := fun q => by
      have := (hGs _ mst').1
      dsimp only at this
      rw [q, hBL] at this; cases this
    have hnL : ∀ b o, (∃ xs n, o.data = .seq xs n) → h.get? b = some o → b ≠ L := fun b o ⟨_, _, hd⟩ e => ns_ne F3 e hd
    clear F1 N1
    by_cases hb : os.length ≤ i + 1
    · generalize hwd : List.map (fun k : Int => 65 + k) fg = word at *
      have hvt : vt.length = i + 1 := by rw [St.length, PL.len]
      obtain ⟨v0, hv0⟩ : ∃ v0, vt[i + 1 - os.length]? = some v0 := ⟨_, List.getElem?_eq_getElem (by rw [hvt]; exact Nat.sub_lt (Nat.succ_pos _) ho0)⟩
      obtain ⟨bb, cc, yy, tt, oo, rfl, e0, bbT, -, bbg, ⟨ccT, ccv, ccn, ccg, cci⟩, -⟩ := St.get _ _ hv0
      rw [PL.get i _ (Nat.le_of_lt_succ (Nat.sub_lt (Nat.succ_pos _) ho0))] at e0
      have hO1 := PL.bfl (i + 1 - os.length)
      have mbb := hsG3 _ (hG _ _ bbg (hnl _ _ ⟨_, _, rfl⟩ bbg) bbT)
      have mcc := hsG3 _ (hG _ _ ccg (hnl _ _ ⟨_, _, rfl⟩ ccg) ccT)
      have hfe : f (y, os) = if (word.take (i + 1)).drop (i + 1 - os.length) = os ∧ (oo = [] ∨ Jn ps (oo ++ os) = [yy % 512, y]) then some (yy * 512 + y, os) else none := by
        cases e0
        rw [← hf]
        show (if os.length ≤ i + 1 ∧ _ then _ else _) = _
        by_cases q : (word.take (i + 1)).drop (i + 1 - os.length) = os ∧ (Bf ps (word.take (i + 1 - os.length)) = [] ∨ Jn ps (Bf ps (word.take (i + 1 - os.length)) ++ os) = [Pk ps (word.take (i + 1 - os.length)) % 512, y])
        · rw [if_pos q, if_pos ⟨hb, q⟩]
        · rw [if_neg q, if_neg (fun x => q x.2)]
      have hO2 : oo.length ≤ 256 := by
        cases e0
        exact hO1
      clear hO1 e0
      have ebe : (((i + 1 : Nat) : Int) - (os.length : Int)).toNat = i + 1 - os.length := Int.toNat_sub ..
      rw [← ebe] at hv0
      have hccl := cci.length
      have hcDt : c ∉ [D, td] := by
        simp only [List.mem_cons, List.not_mem_nil, or_false, not_or]
        refine ⟨fun q => ?_, fun q => ?_⟩
        · have := (hGs _ (hin _ (hsG _ (B.into c _ cg cT)))).1
          dsimp only at this
          rw [q, hBD] at this; cases this
        · rw [q, B.btd] at cg; cases cg
      have hpl := PL.pl
      (repeat' (first | (refine' nameX_C ?zN ?zc ?zm ?zd ?_ ?za ?zb; (case za => rfl); (case zb => rfl); (case zN => assumption); (case zc => rfl); (case zm => news_mem); (case zd => assumption)) | (((fail_if_success (with_reducible show wpAny _ _ (exec (Stmt.While _ _ _ _) _) _ _ _)); (fail_if_success (with_reducible show wpAny _ _ (exec (Stmt.For _ _ _ _ _) _) _ _ _)); (fail_if_success (with_reducible show wpAny _ _ (binaryOp Operator.Add (Value.ref _) (Value.ref _)) _ _ _)); (first | ((with_reducible show wpAny _ _ _ _ _ (Shared.mk _ (Shared.gens _) _ _ _)); dsimp only) | walk1 | (dsimp only; walk1))))))
      · have hoo : oo = [] := by first | assumption | (apply of_decide_eq_true; assumption)
        with_reducible rename (List.drop _ (List.take _ word) = os) => hsl
        rw [ebe] at hsl
        with_reducible rename Fr _ _ _ _ => F4
        with_reducible rename News _ _ _ _ => N4
        have hE4 := hE3 _ _ _ F4 N4 (fun p hp => by repeat (first | exact hp | refine List.Mem.tail _ ?_))
        have hkk := hk3 _ _ _ F4 N4 (fun p hp => by repeat (first | exact hp | refine List.Mem.tail _ ?_))
        have hyes : f (y, os) = some (yy * 512 + y, os) := by
          rw [hfe, if_pos ⟨hsl, .inl hoo⟩]
        have n1 := N4 _ (.head _)
        have n2 := (N4 (D, _) (by repeat (first | exact List.Mem.head _ | refine List.Mem.tail _ ?_))).1
        have n3 := (N4 (td, listOf (List.toArray vt) nt) (by repeat (first | exact mt3 | refine List.Mem.tail _ ?_))).1
        have n4 := (N4 (c, listOf (List.toArray cv) cn) (by repeat (first | exact mc | refine List.Mem.tail _ ?_))).1
        dsimp only at n1 n2 n3 n4
        refine hK₁ _ _ _ F4 hE4 (hkk _ _ hit2 (notin1 hitD) hitL) (hkk _ _ ha (notin1 hstD) hstL) ⟨⟨rfl, rfl, rfl, rfl, rfl, rfl, rfl, rfl, rfl⟩, _, _, n2, ?_⟩
        rw [hfil, hyes]
        refine StAll.snoc (qS.keep (fun b o hd hb e => hkk b o e (fun q => hb (by rw [List.mem_singleton.mp q]; exact .head _)) (hnL b o hd e)) (fun _ h => h)) n1.2.2 (fun q => ?_) n1.1 ⟨cT, cv, cn, n4, ci⟩ hcDt
        simp only [List.mem_cons, List.not_mem_nil, or_false] at q
        rcases q with q | q
        · have n5 := n1.1
          rw [q, n2] at n5; exact absurd (Value.type.inj (congrArg Obj.cls (Option.some.inj n5))) (by decide)
        · have n5 := n1.1
          rw [q, n3] at n5; exact absurd (Value.type.inj (congrArg Obj.cls (Option.some.inj n5))) (by decide)
      · with_reducible rename Fr _ _ _ _ => F6
        with_reducible rename News _ _ _ _ => N6
        have hoo : ¬ oo = [] := by first | assumption | (apply of_decide_eq_false; assumption)
        with_reducible rename (List.drop _ (List.take _ word) = os) => hsl
        rw [ebe] at hsl
        refine kmk_add_ints F6 N6 (News.isList N6 (by news_mem)) (News.isList N6 (by news_mem)) cci ci ?_ (by rw [sizeLine_eq]; omega)
        intro D7 us h7 F7 N7 l7 i7
        have hul := i7.length
        rw [List.length_append] at hul
        have hal : (oo ++ os).length ≤ 1000 := by rw [List.length_append]; omega
        clear F6 N6
        try k_lt l7
        (repeat' (first | (refine' nameX_C ?zN ?zc ?zm ?zd ?_ ?za ?zb; (case za => rfl); (case zb => rfl); (case zN => assumption); (case zc => rfl); (case zm => news_mem); (case zd => assumption)) | (((fail_if_success (with_reducible show wpAny _ _ (exec (Stmt.While _ _ _ _) _) _ _ _)); (fail_if_success (with_reducible show wpAny _ _ (exec (Stmt.For _ _ _ _ _) _) _ _ _)); (first | ((with_reducible show wpAny _ _ _ _ _ (Shared.mk _ (Shared.gens _) _ _ _)); dsimp only) | walk1 | (dsimp only; walk1))))))
        with_reducible rename Fr _ _ _ _ => F8
        with_reducible rename News _ _ _ _ => N8
        refine' joined_call X T (On.of F8) ?w1 ?w2 (LI.of_news N8 (.head _) i7) (PairsIn.at N8 (PairsIn.mono hpi3 (by (intro p9 hp9; repeat (first | exact hp9 | refine List.Mem.tail _ ?_))))) hal (by omega) ?_
        (case w1 => ktr_room)
        (case w2 => ktr_units)
        intro r h9 tk9 e9 f9 ⟨rT, rv, rn, rg, ri⟩
        have ne9 := orNe N8 f9
        simp only [AllNe] at ne9
        replace F8 := Fr.ext F8 e9
        replace N8 := News_cons (News.ext N8 e9) rg (ns_ne F8 rg rfl) rT
        clear e9 f9
        (repeat' (first | (refine' nameX_C ?zN ?zc ?zm ?zd ?_ ?za ?zb; (case za => rfl); (case zb => rfl); (case zN => assumption); (case zc => rfl); (case zm => news_mem); (case zd => assumption)) | (((fail_if_success (with_reducible show wpAny _ _ (exec (Stmt.While _ _ _ _) _) _ _ _)); (fail_if_success (with_reducible show wpAny _ _ (exec (Stmt.For _ _ _ _ _) _) _ _ _)); (first | ((with_reducible show wpAny _ _ _ _ _ (Shared.mk _ (Shared.gens _) _ _ _)); dsimp only) | walk1 | (dsimp only; walk1))))))
        · with_reducible rename Jn _ _ = _ => hj2
          rw [Int.fmod_eq_emod_of_nonneg _ (by decide)] at hj2
          with_reducible rename Fr _ _ _ _ => F4
          with_reducible rename News _ _ _ _ => N4
          have hE4 := hE3 _ _ _ F4 N4 (fun p hp => by repeat (first | exact hp | refine List.Mem.tail _ ?_))
          have hkk := hk3 _ _ _ F4 N4 (fun p hp => by repeat (first | exact hp | refine List.Mem.tail _ ?_))
          have hyes : f (y, os) = some (yy * 512 + y, os) := by
            rw [hfe, if_pos ⟨hsl, .inr hj2⟩]
          have n1 := N4 _ (.head _)
          have n2 := (N4 (D, _) (by repeat (first | exact List.Mem.head _ | refine List.Mem.tail _ ?_))).1
          have n3 := (N4 (td, listOf (List.toArray vt) nt) (by repeat (first | exact mt3 | refine List.Mem.tail _ ?_))).1
          have n4 := (N4 (c, listOf (List.toArray cv) cn) (by repeat (first | exact mc | refine List.Mem.tail _ ?_))).1
          dsimp only at n1 n2 n3 n4
          refine hK₁ _ _ _ F4 hE4 (hkk _ _ hit2 (notin1 hitD) hitL) (hkk _ _ ha (notin1 hstD) hstL) ⟨⟨rfl, rfl, rfl, rfl, rfl, rfl, rfl, rfl, rfl⟩, _, _, n2, ?_⟩
          rw [hfil, hyes]
          refine StAll.snoc (qS.keep (fun b o hd hb e => hkk b o e (fun q => hb (by rw [List.mem_singleton.mp q]; exact .head _)) (hnL b o hd e)) (fun _ h => h)) n1.2.2 (fun q => ?_) n1.1 ⟨cT, cv, cn, n4, ci⟩ hcDt
          simp only [List.mem_cons, List.not_mem_nil, or_false] at q
          rcases q with q | q
          · have n5 := n1.1
            rw [q, n2] at n5; exact absurd (Value.type.inj (congrArg Obj.cls (Option.some.inj n5))) (by decide)
          · have n5 := n1.1
            rw [q, n3] at n5; exact absurd (Value.type.inj (congrArg Obj.cls (Option.some.inj n5))) (by decide)
        · with_reducible rename ¬ (Jn _ _ = _) => hj2
          rw [Int.fmod_eq_emod_of_nonneg _ (by decide)] at hj2
          with_reducible rename Fr _ _ _ _ => F4
          with_reducible rename News _ _ _ _ => N4
          have hE4 := hE3 _ _ _ F4 N4 (fun p hp => by repeat (first | exact hp | refine List.Mem.tail _ ?_))
          have hkk := hk3 _ _ _ F4 N4 (fun p hp => by repeat (first | exact hp | refine List.Mem.tail _ ?_))
          refine hK₁ _ _ _ F4 hE4 (hkk _ _ hit2 (notin1 hitD) hitL) (hkk _ _ ha (notin1 hstD) hstL) ⟨⟨rfl, rfl, rfl, rfl, rfl, rfl, rfl, rfl, rfl⟩, vh, nh, (N4 (D, _) (by repeat (first | exact List.Mem.head _ | refine List.Mem.tail _ ?_))).1, ?_⟩
          have hno : f (y, os) = none := by
            rw [hfe, if_neg (fun q => q.2.elim hoo hj2)]
          rw [hfil, hno, Option.toList_none, List.append_nil]
          exact qS.keep (fun b o hd hb e => hkk b o e (fun q => hb (by rw [List.mem_singleton.mp q]; exact .head _)) (hnL b o hd e)) (fun _ h => h)
      · with_reducible rename ¬ (List.drop _ (List.take _ word) = os) => hsl
        rw [ebe] at hsl
        with_reducible rename Fr _ _ _ _ => F4
        with_reducible rename News _ _ _ _ => N4
        have hE4 := hE3 _ _ _ F4 N4 (fun p hp => by repeat (first | exact hp | refine List.Mem.tail _ ?_))
        have hkk := hk3 _ _ _ F4 N4 (fun p hp => by repeat (first | exact hp | refine List.Mem.tail _ ?_))
        refine hK₁ _ _ _ F4 hE4 (hkk _ _ hit2 (notin1 hitD) hitL) (hkk _ _ ha (notin1 hstD) hstL) ⟨⟨rfl, rfl, rfl, rfl, rfl, rfl, rfl, rfl, rfl⟩, vh, nh, (N4 (D, _) (by repeat (first | exact List.Mem.head _ | refine List.Mem.tail _ ?_))).1, ?_⟩
        have hno : f (y, os) = none := by
          rw [hfe, if_neg (fun q => hsl q.1)]
        rw [hfil, hno, Option.toList_none, List.append_nil]
        exact qS.keep (fun b o hd hb e => hkk b o e (fun q => hb (by rw [List.mem_singleton.mp q]; exact .head _)) (hnL b o hd e)) (fun _ h => h)
    · (repeat' (first | (refine' nameX_C ?zN ?zc ?zm ?zd ?_ ?za ?zb; (case za => rfl); (case zb => rfl); (case zN => assumption); (case zc => rfl); (case zm => news_mem); (case zd => assumption)) | (((fail_if_success (with_reducible show wpAny _ _ (exec (Stmt.While _ _ _ _) _) _ _ _)); (fail_if_success (with_reducible show wpAny _ _ (exec (Stmt.For _ _ _ _ _) _) _ _ _)); (first | ((with_reducible show wpAny _ _ _ _ _ (Shared.mk _ (Shared.gens _) _ _ _)); dsimp only) | walk1 | (dsimp only; walk1))))))
      with_reducible rename Fr _ _ _ _ => F4
      with_reducible rename News _ _ _ _ => N4
      have hE4 := hE3 _ _ _ F4 N4 (fun p hp => by repeat (first | exact hp | refine List.Mem.tail _ ?_))
      have hkk := hk3 _ _ _ F4 N4 (fun p hp => by repeat (first | exact hp | refine List.Mem.tail _ ?_))
      refine hK₁ _ _ _ F4 hE4 (hkk _ _ hit2 (notin1 hitD) hitL) (hkk _ _ ha (notin1 hstD) hstL) ⟨⟨rfl, rfl, rfl, rfl, rfl, rfl, rfl, rfl, rfl⟩, vh, nh, (N4 (D, _) (by repeat (first | exact List.Mem.head _ | refine List.Mem.tail _ ?_))).1, ?_⟩
      have hno : f (y, os) = none := by
        rw [← hf]
        exact if_neg (fun q => hb q.1)
      rw [hfil, hno, Option.toList_none, List.append_nil]
      exact qS.keep (fun b o hd hb e => hkk b o e (fun q => hb (by rw [List.mem_singleton.mp q]; exact .head _)) (hnL b o hd e)) (fun _ h => h)
  · rintro m h tk ⟨⟨q1, q2, q3, q4, q5, q6, q7, q8, q9⟩, vh, nh, qD, qS⟩ eB F3
    try dsimp only
    rw [hstv, List.take_length, ← hf, PL.one (i + 1) (by omega) (by rw [List.length_map]; omega)] at qS
    refine turn_7 X T hdp hun C51 C58 B I F3 (hM _ (hfin _ eB)) q2 q3 q4 q5 q6 q7 q8 h5 h8 hi1 hfl hdl PL hQ q9 ?_ q1 hD.2.2 qD hDtd qS
    exact hfo.mono (fun o e => hfin _ eB _ _ hfoL e)
end
end

section
theorem startT4 : True := by
  w_top off
  trivial
set_option maxHeartbeats 1000000
section
theorem turn_4 {w : World} {σ : Heap} {σg : Array GenState} {σd : Drawn} {σt : Nat} {σo : OsState} {Q : Flow → Shared → Prop} {p : Program} {loose : List Str} {mean : ExcName → Option Value} {mg mb : Str → Option Value} {hT hB : Heap} {L fa : Addr} {cd : Value} {m : Str → Option Value} {GB : List (Addr × Obj)}
    {dp un : Nat} {fr : Option (List Env)} {gd : Option (List Code)} {rd wd pa st td it : Addr} {oit : Obj} {ds fg : List Int} {ps : List (Int × Int)} {sts : List (Int × List Int)} {sz i : Nat} {tS tN tC : Tok} {nm : Int} {tl : Nat → List (Int × List Int)}
    (X : (hd.heap_39 w.params).In hT) (T : Top p loose mean mg mb hT) (hdp : dp + 400 < recursionLimit) (hun : un + 2500 < cLine) (C51 : CodeHd hT 55 51) (C58 : CodeHd hT 62 58)
    (B : Base hT hB L GB rd wd pa st td ds (fg.map fun k => 65 + k) ps sts) (I : ItOk hT hB L it oit) (F : Fr hT L σ m) (M : MidS hT hB σ it oit td (tl i))
    (m1 : m (Str.ofString "size") = some (.int (sz : Nat) tS)) (m2 : m (Str.ofString "word") = some (.ref wd)) (m3 : m (Str.ofString "pairs") = some (.ref pa)) (m4 : m (Str.ofString "standing") = some (.ref st))
    (m5 : m (Str.ofString "number") = some (.int nm tN)) (m6 : m (Str.ofString "told") = some (.ref td)) (m7 : m (Str.ofString "cut") = some (.int ((i + 1 : Nat) : Int) tC))
    (h5 : 5 ≤ sz) (h8 : sz ≤ 8) (hi1 : i < sz) (hfl : fg.length = sz) (hdl : ds.length = 9) (PL : Pl ps (fg.map fun k => 65 + k) sts tl) (hQ : ∀ h' tk' m', Fr hT L h' m' → Ext hB h' → h'.get? it = some oit → LJ hT wd pa st td sz tS nm tN tl (i + 1) m' h' → Q .next ⟨h', σg, σd, tk', σo⟩) {fo bh : Addr} {ks : List Int}
    (m8 : m (Str.ofString "front") = some (.ref fo)) (hfo : LI hT σ fo ((fg.map fun k => 65 + k).take (i + 1)))
    (m9 : m (Str.ofString "behind") = some (.ref bh)) (hbh : LI hT σ bh ks) (kl : ks.length ≤ sz - (i + 1)) (ke : List.replicate (sz - (i + 1) - ks.length) 65 ++ ks = (fg.map (fun k => 65 + k)).drop (i + 1)) :
    wpAny (model PySem.Challenge.rw_ul0003_01.row.prog w) { handled := none, depth := dp, frames := fr, guards := gd, units := un } (execs (loopBody.drop 4 ) (envOfC (Str.ofString "law") lawScope L fa cd)) Q (fun _ _ => False) ⟨σ, σg, σd, σt, σo⟩ := by
  have hfill : Fill Mine.hd.heap_39 PySem.Challenge.rw_ul0003_01 := by (k_fill; trivial)
  generalize hbo : loopBody.drop 4 = bo
  generalize hsc : lawScope = sc
  conv at hbo => lhs; whnf
  conv at hsc => lhs; whnf
  subst hbo hsc
  obtain ⟨G, N, hsG, hG, hk⟩ := M.led F B.bL B.gs
  have hM : ∀ h', (∀ b o, b ≠ L → σ.get? b = some o → h'.get? b = some o) → MidS hT hB h' it oit td (tl i) := fun h' k => M.keep F I B.bL k
  replace F := Fr_names [(Str.ofString "size", .int (sz : Nat) tS), (Str.ofString "word", .ref wd), (Str.ofString "pairs", .ref pa), (Str.ofString "standing", .ref st), (Str.ofString "number", .int nm tN), (Str.ofString "told", .ref td), (Str.ofString "cut", .int ((i + 1 : Nat) : Int) tC), (Str.ofString "front", .ref fo), (Str.ofString "behind", .ref bh)] F (by
      intro p hp
      simp only [List.mem_cons, List.not_mem_nil, or_false] at hp
      rcases hp with rfl | rfl | rfl | rfl | rfl | rfl | rfl | rfl | rfl <;> assumption)
  obtain ⟨wv, wn, mw, wi⟩ := B.wdm
  replace mw := hsG _ mw
  obtain ⟨fT, fv, fn, fgt, fi⟩ := id hfo
  have mf := hG _ _ fgt (ns_ne F fgt rfl) fT
  obtain ⟨bT, bv, bn, bgt, bi⟩ := id hbh
  have mb := hG _ _ bgt (ns_ne F bgt rfl) bT
  have hml : (List.map (fun k : Int => 65 + k) fg).length = sz := by rw [List.length_map, hfl]
  have htl : ((List.map (fun k : Int => 65 + k) fg).take (i + 1)).length = i + 1 := by rw [List.length_take, hml]; omega
  generalize hwd : List.map (fun k : Int => 65 + k) fg = word at *
  have hbv := bi.length
  have hk8 : ks.length ≤ 8 := Nat.le_trans kl (Nat.le_trans (Nat.sub_le ..) h8)
  have hk9 : ((sz : Int) - ((i + 1 : Nat) : Int) - (ks.length : Int)).toNat + ks.length ≤ 16777216 := by
    rw [toNat_sub2]; exact Nat.le_trans (Nat.add_le_add (Nat.le_trans (Nat.sub_le ..) (Nat.le_trans (Nat.sub_le ..) h8)) hk8) (by decide)
  (repeat' (first | (refine' nameX_C ?zN ?zc ?zm ?zd ?_ ?za ?zb; (case za => rfl); (case zb => rfl); (case zN => assumption); (case zc => rfl); (case zm => news_mem); (case zd => assumption)) | (((fail_if_success (with_reducible show wpAny _ _ (exec (Stmt.While _ _ _ _) _) _ _ _)); (fail_if_success (with_reducible show wpAny _ _ (exec (Stmt.For _ _ _ _ _) _) _ _ _)); (fail_if_success (with_reducible show wpAny _ _ (binaryOp Operator.Add (Value.ref _) (Value.ref _)) _ _ _)); (first | walk1 | (dsimp only; walk1))))))
  · with_reducible rename Fr _ _ _ _ => F1
    with_reducible rename News _ _ _ _ => N1
    refine kmk_add_ints F1 N1 (News.isList N1 (.head _)) (News.isList N1 (by news_mem)) (IntsAre_rep _ _ _) bi ?_ (by rw [sizeLine_eq, List.length_replicate]; omega)
    intro D6 us h6 F6 N6 l6 i6
    have e6 : ((sz : Int) - ((i + 1 : Nat) : Int) - (ks.length : Int)).toNat = sz - (i + 1) - ks.length := toNat_sub2 ..
    rw [e6, ke] at i6
    clear F1 N1
    have hdl2 : (word.drop (i + 1)).length = sz - (i + 1) := by rw [List.length_drop, hml]
    try k_lt l6
    (repeat' (first | (refine' nameX_C ?zN ?zc ?zm ?zd ?_ ?za ?zb; (case za => rfl); (case zb => rfl); (case zN => assumption); (case zc => rfl); (case zm => news_mem); (case zd => assumption)) | (((fail_if_success (with_reducible show wpAny _ _ (exec (Stmt.While _ _ _ _) _) _ _ _)); (fail_if_success (with_reducible show wpAny _ _ (exec (Stmt.For _ _ _ _ _) _) _ _ _)); (fail_if_success (with_reducible show wpAny _ _ (execs (Stmt.Assign [Expr.Name (Str.ofString "here") _] _ _ :: _) _) _ _ _)); (first | walk1 | (dsimp only; walk1))))))
    · with_reducible rename Fr _ _ _ _ => F7
      with_reducible rename News _ _ _ _ => N7
      have M7 := hM _ (hk _ _ _ F7 N7 (fun p hp => .tail _ (.tail _ (.tail _ (.tail _ (.tail _ hp))))))
      subst hwd
      refine turn_5 X T hdp hun C51 C58 B I F7 M7 rfl rfl rfl rfl rfl rfl rfl h5 h8 hi1 hfl hdl PL hQ rfl ?_
      exact LI.of_news N7 (.tail _ (.tail _ (.tail _ (.tail _ (.tail _ mf))))) fi
    · with_reducible rename ¬ (List.drop _ _ = _) => hc
      rw [Int.toNat_natCast] at hc
      exact absurd rfl hc
  · with_reducible rename ¬ (List.take _ _ = _) => hc
    rw [Int.toNat_natCast] at hc
    exact absurd rfl hc
end
end

section
theorem startT2 : True := by
  w_top off
  trivial
local macro_rules | `(tactic| walk_at "idle") => `(tactic| skip)
set_option maxHeartbeats 1000000
section
theorem turn_2 {w : World} {σ : Heap} {σg : Array GenState} {σd : Drawn} {σt : Nat} {σo : OsState} {Q : Flow → Shared → Prop} {p : Program} {loose : List Str} {mean : ExcName → Option Value} {mg mb : Str → Option Value} {hT hB : Heap} {L fa : Addr} {cd : Value} {m : Str → Option Value} {GB : List (Addr × Obj)}
    {dp un : Nat} {fr : Option (List Env)} {gd : Option (List Code)} {rd wd pa st td it : Addr} {oit : Obj} {ds fg : List Int} {ps : List (Int × Int)} {sts : List (Int × List Int)} {sz i : Nat} {tS tN tC : Tok} {nm : Int} {tl : Nat → List (Int × List Int)}
    (X : (hd.heap_39 w.params).In hT) (T : Top p loose mean mg mb hT) (hdp : dp + 400 < recursionLimit) (hun : un + 2500 < cLine) (C51 : CodeHd hT 55 51) (C58 : CodeHd hT 62 58)
    (B : Base hT hB L GB rd wd pa st td ds (fg.map fun k => 65 + k) ps sts) (I : ItOk hT hB L it oit) (F : Fr hT L σ m) (M : MidS hT hB σ it oit td (tl i))
    (m1 : m (Str.ofString "size") = some (.int (sz : Nat) tS)) (m2 : m (Str.ofString "word") = some (.ref wd)) (m3 : m (Str.ofString "pairs") = some (.ref pa)) (m4 : m (Str.ofString "standing") = some (.ref st))
    (m5 : m (Str.ofString "number") = some (.int nm tN)) (m6 : m (Str.ofString "told") = some (.ref td)) (m7 : m (Str.ofString "cut") = some (.int ((i + 1 : Nat) : Int) tC))
    (h5 : 5 ≤ sz) (h8 : sz ≤ 8) (hi1 : i < sz) (hfl : fg.length = sz) (hdl : ds.length = 9) (PL : Pl ps (fg.map fun k => 65 + k) sts tl) (hQ : ∀ h' tk' m', Fr hT L h' m' → Ext hB h' → h'.get? it = some oit → LJ hT wd pa st td sz tS nm tN tl (i + 1) m' h' → Q .next ⟨h', σg, σd, tk', σo⟩) {H R hi : Int} {tH tR : Tok}
    (m8 : m (Str.ofString "head") = some (.int H tH)) (m9 : m (Str.ofString "rest") = some (.int R tR))
    (hH : (H.natAbs : Int) = dval 16 fg.reverse / 16 ^ (sz - (i + 1))) (hR : (R.natAbs : Int) = dval 16 fg.reverse % 16 ^ (sz - (i + 1)))
    (hx : ∀ x ∈ fg, 0 ≤ x ∧ x < 16) (hfr : ∃ r, fg = hi :: r) (hh1 : 1 ≤ hi) :
    wpAny (model PySem.Challenge.rw_ul0003_01.row.prog w) { handled := none, depth := dp, frames := fr, guards := gd, units := un } (execs (loopBody.drop 2 ) (envOfC (Str.ofString "law") lawScope L fa cd)) Q (fun _ _ => False) ⟨σ, σg, σd, σt, σo⟩ := by
  have hfill : Fill Mine.hd.heap_39 PySem.Challenge.rw_ul0003_01 := by (k_fill; trivial)
  generalize hbo : loopBody.drop 2 = bo
  generalize hsc : lawScope = sc
  conv at hbo => lhs; whnf
  conv at hsc => lhs; whnf
  subst hbo hsc
  obtain ⟨G, N, hsG, hG, hk⟩ := M.led F B.bL B.gs
  have hM : ∀ h', (∀ b o, b ≠ L → σ.get? b = some o → h'.get? b = some o) → MidS hT hB h' it oit td (tl i) := fun h' k => M.keep F I B.bL k
  replace F := Fr_names [(Str.ofString "size", .int (sz : Nat) tS), (Str.ofString "word", .ref wd), (Str.ofString "pairs", .ref pa), (Str.ofString "standing", .ref st), (Str.ofString "number", .int nm tN), (Str.ofString "told", .ref td), (Str.ofString "cut", .int ((i + 1 : Nat) : Int) tC), (Str.ofString "head", .int H tH), (Str.ofString "rest", .int R tR)] F (by
      intro p hp
      simp only [List.mem_cons, List.not_mem_nil, or_false] at hp
      rcases hp with rfl | rfl | rfl | rfl | rfl | rfl | rfl | rfl | rfl <;> assumption)
  obtain ⟨wv, wn, mw, wi⟩ := B.wdm
  replace mw := hsG _ mw
  (repeat' (first | (refine' nameX_C ?zN ?zc ?zm ?zd ?_ ?za ?zb; (case za => rfl); (case zb => rfl); (case zN => assumption); (case zc => rfl); (case zm => news_mem); (case zd => assumption)) | (((fail_if_success (with_reducible show wpAny _ _ (exec (Stmt.While _ _ _ _) _) _ _ _)); (fail_if_success (with_reducible show wpAny _ _ (exec (Stmt.For _ _ _ _ _) _) _ _ _)); (first | walk1 | (dsimp only; walk1))))))
  have hd16 := dval_bound (b := 16) (by decide) fg.reverse (fun x h => hx x (List.mem_reverse.mp h))
  rw [List.length_reverse, hfl] at hd16
  have hp16 : (0 : Int) < 16 ^ (sz - (i + 1)) := Int.pow_pos (by decide)
  have h168 : (16 : Int) ^ sz ≤ 16 ^ 8 := pow_le_of (by decide) h8
  have hHb : Builtin.Int.intBits (H.natAbs : Int) ≤ 60 := intBits_le_iff.mpr (by
    have h1 : dval 16 fg.reverse / 16 ^ (sz - (i + 1)) ≤ dval 16 fg.reverse := Int.ediv_le_self _ hd16.1
    have h2 : (16 : Int) ^ 8 < 2 ^ 60 := by decide
    rw [Int.natAbs_natCast]
    omega)
  have hRb : Builtin.Int.intBits (R.natAbs : Int) ≤ 60 := intBits_le_iff.mpr (by
    have h1 : dval 16 fg.reverse % 16 ^ (sz - (i + 1)) ≤ dval 16 fg.reverse := emod_le_of hd16.1 hp16
    have h2 : (16 : Int) ^ 8 < 2 ^ 60 := by decide
    rw [Int.natAbs_natCast]
    omega)
  refine' ap_call X T (On.of F) ?w1 ?w2 hHb ?_
  (case w1 => ktr_room)
  (case w2 => ktr_units)
  intro b1 t1 h1 tk1 ks1 e1 hb1 ap1
  replace F := Fr.ext F e1
  replace N := News.ext N e1
  (repeat' (first | (refine' nameX_C ?zN ?zc ?zm ?zd ?_ ?za ?zb; (case za => rfl); (case zb => rfl); (case zN => assumption); (case zc => rfl); (case zm => news_mem); (case zd => assumption)) | (((fail_if_success (with_reducible show wpAny _ _ (exec (Stmt.While _ _ _ _) _) _ _ _)); (fail_if_success (with_reducible show wpAny _ _ (exec (Stmt.For _ _ _ _ _) _) _ _ _)); (first | walk1 | (dsimp only; walk1))))))
  with_reducible rename Fr _ _ _ _ => F1
  with_reducible rename News _ _ _ _ => N1
  have ks1e : ks1 = (fg.map (fun k => 65 + k)).take (i + 1) := front_ok hx hfr.choose_spec hh1 (by omega) (by omega) (by rw [hfl, ← hH]; exact ap1)
  have kl1 : ks1.length = i + 1 := by rw [ks1e, List.length_take, List.length_map]; omega
  refine list_bytesK rfl F1 N1 hb1 (by omega) ?_
  intro D1 c1 vs1 h2 tk2 F2 N2 l1 i1
  clear F1 N1
  (repeat' (first | (refine' nameX_C ?zN ?zc ?zm ?zd ?_ ?za ?zb; (case za => rfl); (case zb => rfl); (case zN => assumption); (case zc => rfl); (case zm => news_mem); (case zd => assumption)) | (((fail_if_success (with_reducible show wpAny _ _ (exec (Stmt.While _ _ _ _) _) _ _ _)); (fail_if_success (with_reducible show wpAny _ _ (exec (Stmt.For _ _ _ _ _) _) _ _ _)); (first | walk1 | (dsimp only; walk1))))))
  with_reducible rename Fr _ _ _ _ => F3
  with_reducible rename News _ _ _ _ => N3
  refine' ap_call X T (On.of F3) ?w3 ?w4 hRb ?_
  (case w3 => ktr_room)
  (case w4 => ktr_units)
  intro b2 t2 h3 tk3 ks2 e3 hb2 ap2
  replace F3 := Fr.ext F3 e3
  replace N3 := News.ext N3 e3
  clear e3
  (repeat' (first | (refine' nameX_C ?zN ?zc ?zm ?zd ?_ ?za ?zb; (case za => rfl); (case zb => rfl); (case zN => assumption); (case zc => rfl); (case zm => news_mem); (case zd => assumption)) | (((fail_if_success (with_reducible show wpAny _ _ (exec (Stmt.While _ _ _ _) _) _ _ _)); (fail_if_success (with_reducible show wpAny _ _ (exec (Stmt.For _ _ _ _ _) _) _ _ _)); (first | walk1 | (dsimp only; walk1))))))
  with_reducible rename Fr _ _ _ _ => F4
  with_reducible rename News _ _ _ _ => N4
  obtain ⟨kl2, ks2e⟩ : ks2.length ≤ sz - (i + 1) ∧ List.replicate (sz - (i + 1) - ks2.length) 65 ++ ks2 = (fg.map (fun k => 65 + k)).drop (i + 1) := by
    have := behind_ok (ks := ks2) hx (c := i + 1) (by omega) (by rw [hfl, ← hR]; exact ap2)
    rw [hfl] at this
    exact this
  refine list_bytesK rfl F4 N4 hb2 (by omega) ?_
  intro D2 c2 vs2 h4 tk4 F5 N5 l2 i2
  clear F4 N4
  (repeat' (first | (refine' nameX_C ?zN ?zc ?zm ?zd ?_ ?za ?zb; (case za => rfl); (case zb => rfl); (case zN => assumption); (case zc => rfl); (case zm => news_mem); (case zd => assumption)) | (((fail_if_success (with_reducible show wpAny _ _ (exec (Stmt.While _ _ _ _) _) _ _ _)); (fail_if_success (with_reducible show wpAny _ _ (exec (Stmt.For _ _ _ _ _) _) _ _ _)); (fail_if_success (with_reducible show wpAny _ _ (execs (Stmt.If _ _ _ _ :: _) _) _ _ _)); (first | walk1 | (dsimp only; walk1))))))
  with_reducible rename Fr _ _ _ _ => F6
  with_reducible rename News _ _ _ _ => N6
  have M6 := hM _ (hk _ _ _ F6 N6 (fun p hp => .tail _ (.tail _ hp)))
  refine turn_4 X T hdp hun C51 C58 B I F6 M6 rfl rfl rfl rfl rfl rfl rfl h5 h8 hi1 hfl hdl PL hQ rfl ?_ rfl ?_ kl2 ks2e
  · rw [← ks1e]; exact LI.of_news N6 (.tail _ (.head _)) i1
  · exact LI.of_news N6 (.head _) i2
end
end

section
theorem startT1 : True := by
  w_top off
  trivial
set_option maxHeartbeats 1000000
section
theorem idm_any {prog : Program} {w : World} {σ : Heap} {σg : Array GenState} {σd : Drawn} {σt : Nat} {σo : OsState} {Q E : Value → Shared → Prop} {p : Program} {loose : List Str} {mean : ExcName → Option Value} {mg mb : Str → Option Value} {hT : Heap}
    {dp un : Nat} {fr : Option (List Env)} {gd : Option (List Code)} {a b Nn P : Int} {ta tb : Tok}
    (X : (hd.heap_39 w.params).In hT) (T : Top p loose mean mg mb hT) (hK : On hT σ) (hdp : dp + 280 < recursionLimit) (hun : un + 1450 < cLine)
    (hs : a = Nn ∧ b = P ∨ a = -Nn ∧ b = -P) (hn : 0 ≤ Nn) (hP : 0 < P) (hba : Builtin.Int.intBits Nn ≤ 60) (hbb : Builtin.Int.intBits P ≤ 60)
    (C51 : CodeHd hT 55 51) (t51 : Tab hT σ 51 q51 pos51) (C58 : CodeHd hT 62 58) (t58 : Tab hT σ 58 q58 pos58)
    (hret : ∀ r h' tk' H R, KeptB σ h' → Tab hT h' 51 q51 pos51 → Tab hT h' 58 q58 pos58 → σ.get? r = none → TupII hT h' r H R → (H.natAbs : Int) = Nn / P → (R.natAbs : Int) = Nn % P → Q (.ref r) ⟨h', σg, σd, tk', σo⟩) :
    wpAny (model prog w) { handled := none, depth := dp, frames := fr, guards := gd, units := un } (call (.ref 77) [.int a ta, .int b tb]) Q E ⟨σ, σg, σd, σt, σo⟩ := by
  have h1 := Int.natAbs_of_nonneg (Int.ediv_nonneg hn (Int.le_of_lt hP))
  have h2 := Int.natAbs_of_nonneg (Int.emod_nonneg Nn (Int.ne_of_gt hP))
  rcases hs with ⟨rfl, rfl⟩ | ⟨rfl, rfl⟩
  · exact idm_pos X T hK (by omega) (by omega) hn hP hba hbb C51 t51 C58 t58 fun r h' tk' k x y f t => hret r h' tk' _ _ k x y f t h1 h2
  · refine idm_neg X T hK hdp hun (by omega) (by omega) (by rw [Int.neg_neg]; exact hba) (by rw [Int.neg_neg]; exact hbb) C51 t51 C58 t58 fun r h' tk' k x y f t => ?_
    rw [Int.neg_neg, Int.neg_neg] at t
    exact hret r h' tk' _ _ k x y f t h1 (by rw [Int.natAbs_neg]; exact h2)
theorem turn_1 {w : World} {σ : Heap} {σg : Array GenState} {σd : Drawn} {σt : Nat} {σo : OsState} {Q : Flow → Shared → Prop} {p : Program} {loose : List Str} {mean : ExcName → Option Value} {mg mb : Str → Option Value} {hT hB : Heap} {L fa : Addr} {cd : Value} {m : Str → Option Value} {GB : List (Addr × Obj)}
    {dp un : Nat} {fr : Option (List Env)} {gd : Option (List Code)} {rd wd pa st td it : Addr} {oit : Obj} {ds fg : List Int} {ps : List (Int × Int)} {sts : List (Int × List Int)} {sz i : Nat} {tS tN tC : Tok} {nm : Int} {tl : Nat → List (Int × List Int)}
    (X : (hd.heap_39 w.params).In hT) (T : Top p loose mean mg mb hT) (hdp : dp + 400 < recursionLimit) (hun : un + 2500 < cLine) (C51 : CodeHd hT 55 51) (C58 : CodeHd hT 62 58)
    (B : Base hT hB L GB rd wd pa st td ds (fg.map fun k => 65 + k) ps sts) (I : ItOk hT hB L it oit) (F : Fr hT L σ m) (M : MidS hT hB σ it oit td (tl i))
    (m1 : m (Str.ofString "size") = some (.int (sz : Nat) tS)) (m2 : m (Str.ofString "word") = some (.ref wd)) (m3 : m (Str.ofString "pairs") = some (.ref pa)) (m4 : m (Str.ofString "standing") = some (.ref st))
    (m5 : m (Str.ofString "number") = some (.int nm tN)) (m6 : m (Str.ofString "told") = some (.ref td)) (m7 : m (Str.ofString "cut") = some (.int ((i + 1 : Nat) : Int) tC))
    (h5 : 5 ≤ sz) (h8 : sz ≤ 8) (hi1 : i < sz) (hfl : fg.length = sz) (hdl : ds.length = 9) (PL : Pl ps (fg.map fun k => 65 + k) sts tl) (hQ : ∀ h' tk' m', Fr hT L h' m' → Ext hB h' → h'.get? it = some oit → LJ hT wd pa st td sz tS nm tN tl (i + 1) m' h' → Q .next ⟨h', σg, σd, tk', σo⟩) {hi : Int}
    (hnm : nm = (1 - 2 * (ds.getD 8 0).fmod 2) * dval 16 fg.reverse)
    (hx : ∀ x ∈ fg, 0 ≤ x ∧ x < 16) (hfr : ∃ r, fg = hi :: r) (hh1 : 1 ≤ hi) :
    wpAny (model PySem.Challenge.rw_ul0003_01.row.prog w) { handled := none, depth := dp, frames := fr, guards := gd, units := un } (execs (loopBody.drop 0 ) (envOfC (Str.ofString "law") lawScope L fa cd)) Q (fun _ _ => False) ⟨σ, σg, σd, σt, σo⟩ := by
  have hfill : Fill Mine.hd.heap_39 PySem.Challenge.rw_ul0003_01 := by (k_fill; trivial)
  generalize hbo : loopBody.drop 0 = bo
  generalize hsc : lawScope = sc
  conv at hbo => lhs; whnf
  conv at hsc => lhs; whnf
  subst hbo hsc
  obtain ⟨G, N, hsG, hG, hk⟩ := M.led F B.bL B.gs
  have hM : ∀ h', (∀ b o, b ≠ L → σ.get? b = some o → h'.get? b = some o) → MidS hT hB h' it oit td (tl i) := fun h' k => M.keep F I B.bL k
  replace F := Fr_names [(Str.ofString "size", .int (sz : Nat) tS), (Str.ofString "word", .ref wd), (Str.ofString "pairs", .ref pa), (Str.ofString "standing", .ref st), (Str.ofString "number", .int nm tN), (Str.ofString "told", .ref td), (Str.ofString "cut", .int ((i + 1 : Nat) : Int) tC)] F (by
      intro p hp
      simp only [List.mem_cons, List.not_mem_nil, or_false] at hp
      rcases hp with rfl | rfl | rfl | rfl | rfl | rfl | rfl <;> assumption)
  obtain ⟨oD, mD, dD⟩ := B.cell
  replace mD := hsG _ mD
  obtain ⟨rv, rn, mr, ri⟩ := B.rdm
  replace mr := hsG _ mr
  have hrl := ri.length
  have hd16 := dval_bound (b := 16) (by decide) fg.reverse (fun x h => hx x (List.mem_reverse.mp h))
  rw [List.length_reverse, hfl] at hd16
  generalize hN : dval 16 fg.reverse = Nn at *
  have h168 : (16 : Int) ^ sz ≤ 16 ^ 8 := pow_le_of (by decide) h8
  have h16c : (16 : Int) ^ 8 < 2 ^ 60 := by decide
  have hp16 : (0 : Int) < 16 ^ (sz - (i + 1)) := Int.pow_pos (by decide)
  have h16k : (16 : Int) ^ (sz - (i + 1)) ≤ 16 ^ 8 := pow_le_of (by decide) (by omega)
  have hNb : Builtin.Int.intBits Nn ≤ 60 := intBits_le_iff.mpr (by omega)
  have hUb : Builtin.Int.intBits ((16 : Int) ^ (sz - (i + 1))) ≤ 60 := intBits_le_iff.mpr (by omega)
  obtain ⟨_, ps51, g51, _⟩ := id M.t51
  obtain ⟨_, ps58, g58, _⟩ := id M.t58
  have h51L : (51 : Addr) ≠ L := nsf_ne F g51 ⟨_, rfl⟩
  have h58L : (58 : Addr) ≠ L := nsf_ne F g58 ⟨_, rfl⟩
  have hsg : (ds.getD 8 0).fmod 2 = 0 ∨ (ds.getD 8 0).fmod 2 = 1 := by
    have h1 := Int.fmod_nonneg_of_pos (ds.getD 8 0) (show (0 : Int) < 2 by decide)
    have h2 := Int.fmod_lt_of_pos (ds.getD 8 0) (show (0 : Int) < 2 by decide)
    omega
  have ekk : ((sz : Int) - ((i + 1 : Nat) : Int)).toNat = sz - (i + 1) := Int.toNat_sub ..
  have e8 : ds.getD (Int.toNat 8) 0 = ds.getD 8 0 := rfl
  (repeat' (first | (refine' nameX_C ?zN ?zc ?zm ?zd ?_ ?za ?zb; (case za => rfl); (case zb => rfl); (case zN => assumption); (case zc => rfl); (case zm => news_mem); (case zd => assumption)) | (((fail_if_success (with_reducible show wpAny _ _ (exec (Stmt.While _ _ _ _) _) _ _ _)); (fail_if_success (with_reducible show wpAny _ _ (exec (Stmt.For _ _ _ _ _) _) _ _ _)); (fail_if_success (with_reducible show wpAny _ _ (execs (Stmt.Assign [Expr.Name (Str.ofString "front") _] _ _ :: _) _) _ _ _)); (first | walk1 | (dsimp only; walk1))))))
  · with_reducible rename Fr _ _ _ _ => F1
    with_reducible rename News _ _ _ _ => N1
    have M1 := hM _ (hk _ _ _ F1 N1 (fun p hp => hp))
    have eu : nm = Nn ∧ (1 - 2 * (ds.getD (Int.toNat 8) 0).fmod 2) * (16 : Int) ^ ((sz : Int) - ((i + 1 : Nat) : Int)).toNat = 16 ^ (sz - (i + 1)) ∨ nm = -Nn ∧ (1 - 2 * (ds.getD (Int.toNat 8) 0).fmod 2) * (16 : Int) ^ ((sz : Int) - ((i + 1 : Nat) : Int)).toNat = -16 ^ (sz - (i + 1)) := by
      rw [e8, ekk, hnm]
      rcases hsg with hsg | hsg
      · rw [hsg]; left; omega
      · rw [hsg]; right; omega
    refine' idm_any X T (On.of F1) ?z2 ?z3 eu hd16.1 hp16 hNb hUb C51 M1.t51 C58 M1.t58 ?_
    (case z2 => ktr_room)
    (case z3 => (show un + 1450 < _; omega))
    intro r h2 tk2 Hh Rr k2 t51' t58' f2 l2 hH hR
    have M2 := M1.keepB I B.b51 B.b58 k2 t51' t58'
    have F2 := Fr_kb F1 k2 M.t51.1 M.t58.1 h51L h58L
    clear F1 N1
    obtain ⟨G2, N2, hsG2, hG2, hk2⟩ := M2.led F2 B.bL B.gs
    obtain ⟨hTr, t1, t2, n, gr⟩ := l2
    have mr2 := hG2 _ _ gr (ns_ne F2 gr rfl) hTr
    have hM2 : ∀ h', (∀ b o, b ≠ L → h2.get? b = some o → h'.get? b = some o) → MidS hT hB h' it oit td (tl i) := fun h' k => M2.keep F2 I B.bL k
    (repeat' (first | (refine' nameX_C ?zN ?zc ?zm ?zd ?_ ?za ?zb; (case za => rfl); (case zb => rfl); (case zN => assumption); (case zc => rfl); (case zm => news_mem); (case zd => assumption)) | (((fail_if_success (with_reducible show wpAny _ _ (exec (Stmt.While _ _ _ _) _) _ _ _)); (fail_if_success (with_reducible show wpAny _ _ (exec (Stmt.For _ _ _ _ _) _) _ _ _)); (fail_if_success (with_reducible show wpAny _ _ (execs (Stmt.Assign [Expr.Name (Str.ofString "front") _] _ _ :: _) _) _ _ _)); (first | walk1 | (dsimp only; walk1))))))
    with_reducible rename Fr _ _ _ _ => F3
    with_reducible rename News _ _ _ _ => N3
    refine turn_2 X T hdp hun C51 C58 B I F3 (hM2 _ (hk2 _ _ _ F3 N3 (fun p hp => hp))) rfl rfl rfl rfl rfl rfl rfl h5 h8 hi1 hfl hdl PL hQ rfl rfl (by rw [hN]; exact hH) (by rw [hN]; exact hR) hx hfr hh1
  · with_reducible rename Fr _ _ _ _ => F1
    with_reducible rename News _ _ _ _ => N1
    have ei : sz - (i + 1) = 0 := by omega
    refine turn_2 X T hdp hun C51 C58 B I F1 (hM _ (hk _ _ _ F1 N1 (fun p hp => by first | exact hp | exact .tail _ hp))) rfl rfl rfl rfl rfl rfl rfl h5 h8 hi1 hfl hdl PL hQ rfl rfl ?_ ?_ hx hfr hh1
    · rw [hN, ei, Int.pow_zero, Int.ediv_one, hnm]
      rcases hsg with hsg | hsg <;> (rw [hsg]; omega)
    · rw [hN, ei, Int.pow_zero, Int.emod_one]; rfl
end
end

section
set_option maxHeartbeats 1000000
section
variable {prog : Program} {w : World} {A : Around} {s : Shared} {h₀ : Heap} {L : Addr} {m : Str → Option Value} {env : Env}
theorem kct_list {ct elt : Expr} {x : Str} {scope : Scope} {cl : List (Str × Addr)} {S : List (Addr × Obj) → Prop} {Fin : List Value → List (Addr × Obj) → Prop} {news : List (Addr × Obj)} {vs : List Value} {ns : List Int} (g : Int → Bool) (hi : IntsAre vs ns)
    (turn : ∀ k t I oI C oC D m₂ ys h tk (E' : Value → Shared → Prop), k ∈ ns → LCg.NsObj oC m₂ → m₂ x = some (.int k t) → Fr h₀ L h m → News h₀ L h ((I, oI) :: (C, oC) :: (D, LCg.lst ys) :: news) → LCg.Off3 I C D news → ((@Ne Nat I C) ∧ (@Ne Nat I D) ∧ (@Ne Nat C D)) →
      wpAny (model prog w) A (isTrue ct (compEnvC scope cl C env) (eval ct (compEnvC scope cl C env))) (fun ok s' => if ok = true then
        g k = true ∧ wpAny (model prog w) A (eval elt (compEnvC scope cl C env)) (LCg.CompEnd h₀ L m { s with heap := h, toks := tk } I oI C oC D (LCg.lst ys) S (fun y news' => news' = news ∧ ∃ t', y = .int k t')) E' s'
        else g k = false ∧ LCg.CompEnd h₀ L m { s with heap := h, toks := tk } I oI C oC D (LCg.lst ys) S (fun _ news' => news' = news) Value.none s') E' { s with heap := h, toks := tk })
    (fin : ∀ ys, IntsAre ys (ns.filter g) → Fin ys news) : LCt.CompRestT prog w A h₀ L m env ct elt x scope cl s S (fun i v => vs.toArray[i]? = some v) Fin vs.toArray.size 0 [] news := by
  have hl := hi.length
  have key : ∀ (j i : Nat) (ys : List Value), i + j = ns.length → IntsAre ys ((ns.take i).filter g) → LCt.CompRestT prog w A h₀ L m env ct elt x scope cl s S (fun i v => vs.toArray[i]? = some v) Fin j i ys news := by
    intro j
    induction j with
    | zero =>
      intro i ys h1 hy
      have e : i = ns.length := by omega
      subst e
      rw [List.take_length] at hy
      exact LCt.CompRestT.zero (fin ys hy)
    | succ j ih =>
      intro i ys h1 hy
      refine LCt.CompRestT.succ ?_
      intro v I oI C oC D m₂ h tk E' hv hC hx F N off ne
      obtain ⟨k, t, hv', hk⟩ := IntsAre.at hi i v (by simpa using hv)
      rw [hv'] at hx
      refine wpAny_mono (turn k t I oI C oC D m₂ ys h tk E' (List.mem_of_getElem? hk) hC hx F N off ne) (fun ok s₂ hq => ?_) fun _ _ e => e
      cases ok with
      | true =>
        simp only [if_true] at hq ⊢
        obtain ⟨hg, hq⟩ := hq
        refine wpAny_mono hq (fun y s₃ hq => ?_) fun _ _ e => e
        obtain ⟨h', tk', nw, e, F', N', off', hS, hn, t', hy'⟩ := hq
        subst hn
        refine ⟨h', tk', nw, e, F', N', off', hS, ?_⟩
        rw [hy']
        refine ih (i + 1) _ (by omega) ?_
        rw [List.take_add_one, hk, List.filter_append]
        refine hy.append ?_
        show IntsAre _ (List.filter g [k])
        rw [List.filter_cons_of_pos hg]
        exact .cons k t' .nil
      | false =>
        simp only [Bool.false_eq_true, if_false] at hq ⊢
        obtain ⟨hg, h', tk', nw, e, F', N', off', hS, hn⟩ := hq
        subst hn
        refine ⟨h', tk', nw, e, F', N', off', hS, ?_⟩
        refine ih (i + 1) _ (by omega) ?_
        rw [List.take_add_one, hk, List.filter_append]
        show IntsAre ys (_ ++ List.filter g [k])
        rw [List.filter_cons_of_neg (by rw [hg]; decide), List.filter_nil, List.append_nil]
        exact hy
  have e : vs.toArray.size = ns.length := by rw [List.size_toArray]; exact hl
  rw [e]
  exact key ns.length 0 [] (by omega) (by simp only [List.take_zero, List.filter_nil]; exact .nil)
end
theorem eof_filter {J : List Int} (h : ∀ x ∈ J, 0 < x) : (J ++ [0]).filter (fun k => decide (k = 0)) = [0] := by
  rw [List.filter_append]
  have : J.filter (fun k => decide (k = 0)) = [] := List.filter_eq_nil_iff.mpr fun x hx => by have := h x hx; simp; omega
  rw [this]; rfl
end

section
theorem startTail : True := by
  w_top off
  trivial
set_option maxHeartbeats 1000000
section
local macro_rules | `(tactic| walk_at "subscriptTail") => `(tactic| ((with_reducible rename News _ _ _ _ => N9); refine item_tupleT (tup_of N9 (by news_mem)) (by decide) (by decide) rfl rfl ?_))
theorem law_tail {w : World} {σ : Heap} {σg : Array GenState} {σd : Drawn} {σt : Nat} {σo : OsState} {Q : Flow → Shared → Prop} {p : Program} {loose : List Str} {mean : ExcName → Option Value} {mg mb : Str → Option Value} {hT hB : Heap} {L fa : Addr} {cd : Value} {m : Str → Option Value} {GB : List (Addr × Obj)}
    {dp un : Nat} {fr : Option (List Env)} {gd : Option (List Code)} {rd wd pa st td : Addr} {ds fg : List Int} {ps : List (Int × Int)} {sts : List (Int × List Int)} {sz : Nat} {tS tN : Tok} {nm : Int} {tl : Nat → List (Int × List Int)}
    (X : (hd.heap_39 w.params).In hT) (T : Top p loose mean mg mb hT) (hdp : dp + 400 < recursionLimit) (hun : un + 2500 < cLine) (C51 : CodeHd hT 55 51)
    (B : Base hT hB L GB rd wd pa st td ds (fg.map fun k => 65 + k) ps sts) (F : Fr hT L σ m) (J : LJ hT wd pa st td sz tS nm tN tl sz m σ) (tT : hT.get? td = none) (eB : Ext hB σ)
    (h5 : 5 ≤ sz) (h8 : sz ≤ 8) (hfl : fg.length = sz) (PL : Pl ps (fg.map fun k => 65 + k) sts tl)
    (hend : ∀ h' tk', Ext hT h' → GrownAt 58 h' → GrownAt 51 h' → Q (.ret (.bool true)) ⟨h', σg, σd, tk', σo⟩) :
    wpAny (model PySem.Challenge.rw_ul0003_01.row.prog w) { handled := none, depth := dp, frames := fr, guards := gd, units := un } (execs (lawBody.drop 12) (envOfC (Str.ofString "law") lawScope L fa cd)) Q (fun _ _ => False) ⟨σ, σg, σd, σt, σo⟩ := by
  have hfill : Fill Mine.hd.heap_39 PySem.Challenge.rw_ul0003_01 := by (k_fill; trivial)
  generalize hbo : lawBody.drop 12 = bo
  generalize hsc : lawScope = sc
  conv at hbo => lhs; whnf
  conv at hsc => lhs; whnf
  subst hbo hsc
  obtain ⟨m1, m2, m3, m4, m5, m6, t51, t58, vt, nt, gt, St⟩ := J
  obtain ⟨G, N, hG, -, -⟩ := led_all F []
  have hsG : ∀ p ∈ GB, p ∈ G := fun p hp => by
    obtain ⟨g1, g2⟩ := B.gs p hp
    exact hG _ _ (eB _ _ g1) (by simp) (fun q => by rw [q, B.bL] at g1; cases g1) g2
  have hnl : ∀ b o, (∃ xs n, o.data = .seq xs n) → σ.get? b = some o → b ≠ L := fun b o ⟨_, _, hd⟩ e => ns_ne F e hd
  have hnf : ∀ b o, (∃ vs, o.data = .fields vs) → σ.get? b = some o → b ≠ L := fun b o hd e => nsf_ne F e hd
  have hFk := F.keep
  have mt := hG _ _ gt (by simp) (ns_ne F gt rfl) tT
  have hvt : vt.length = sz + 1 := by rw [St.length, PL.len]
  obtain ⟨v0, hv0⟩ : ∃ v0, vt[sz]? = some v0 := ⟨_, List.getElem?_eq_getElem (by omega)⟩
  obtain ⟨bb, cc, yy, tt, oo, rfl, e0, bbT, -, bbg, -, -⟩ := St.get _ _ hv0
  rw [PL.get sz _ (Nat.le_refl _)] at e0
  have mbb := hG _ _ bbg (by simp) (hnl _ _ ⟨_, _, rfl⟩ bbg) bbT
  have hml : (List.map (fun k : Int => 65 + k) fg).length = sz := by rw [List.length_map, hfl]
  have hdg := PL.dig sz
  have hJl := Jto_length ps (List.map (fun k : Int => 65 + k) fg) ps.length
  have hJn : Jn ps (List.map (fun k : Int => 65 + k) fg) ≠ [] := Jto_ne (ps := ps) (fun q => by rw [q] at hml; simp at hml; omega) ps.length
  rw [List.take_of_length_le (by omega)] at e0 hdg
  obtain ⟨wv, wn, mw, wi⟩ := B.wdm
  replace mw := hsG _ mw
  have hpi := B.pam.mono hsG
  have hpl := PL.pl
  have hNw := N _ mw
  have hpa0 := PairsIn.at N hpi
  generalize hwd : List.map (fun k : Int => 65 + k) fg = word at *
  have hJl2 : (Jn ps word).length ≤ 8 := by show (Jto ps word ps.length).length ≤ 8; omega
  obtain ⟨d1, d2, d3⟩ := marks_ok hJn hdg
  have ey : yy = dval 512 (Jn ps word).reverse := by cases e0; rfl
  subst ey
  clear e0
  have ets : ((sz : Nat) : Int).toNat = sz := Int.toNat_natCast _
  rw [← ets] at hv0
  replace F := Fr_names [(Str.ofString "size", .int (sz : Nat) tS), (Str.ofString "word", .ref wd), (Str.ofString "pairs", .ref pa), (Str.ofString "told", .ref td)] F (by
      intro p hp
      simp only [List.mem_cons, List.not_mem_nil, or_false] at hp
      rcases hp with rfl | rfl | rfl | rfl <;> assumption)
  (repeat' (first | (refine' nameX_C ?zN ?zc ?zm ?zd ?_ ?za ?zb; (case za => rfl); (case zb => rfl); (case zN => assumption); (case zc => rfl); (case zm => news_mem); (case zd => assumption)) | (((fail_if_success (with_reducible show wpAny _ _ (exec (Stmt.While _ _ _ _) _) _ _ _)); (fail_if_success (with_reducible show wpAny _ _ (exec (Stmt.For _ _ _ _ _) _) _ _ _)); (first | walk1 | (dsimp only; walk1))))))
  with_reducible rename Fr _ _ _ _ => F1
  with_reducible rename News _ _ _ _ => N1
  generalize hJe : Jn ps word = J at *
  have hp9 : ∀ k : Nat, (512 : Int) ^ k = ((2 ^ (9 * k) : Nat) : Int) := fun k => by
    have e : (512 : Int) = 2 ^ 9 := by decide
    rw [e, ← Int.pow_mul]; push_cast; rfl
  have ha0 : 0 ≤ dval 512 J.reverse * 512 := Int.le_trans (Int.le_of_lt (Int.pow_pos (by decide))) d2
  have hna : ((dval 512 J.reverse * 512).natAbs : Int) = dval 512 J.reverse * 512 := Int.natAbs_of_nonneg ha0
  have hb1 : Builtin.Int.intBits (dval 512 J.reverse * 512) ≤ 9 * (J.length + 1) := intBits_le_iff.mpr (by have := hp9 (J.length + 1); omega)
  have hb2 : 9 * J.length + 1 ≤ Builtin.Int.intBits (dval 512 J.reverse * 512) := by
    apply Decidable.byContradiction
    intro q
    have h1 := intBits_le_iff.mp (show Builtin.Int.intBits (dval 512 J.reverse * 512) ≤ 9 * J.length by omega)
    have := hp9 J.length
    omega
  obtain ⟨_, ps51, g51, _⟩ := id t51
  have h51L : (51 : Addr) ≠ L := hnf _ _ ⟨_, rfl⟩ g51
  have hk1 := kept_of hFk hG F1 N1 (fun p hp => hp)
  have t51_1 := t51.keep (fun b o hd e => hk1 b o e (by simp) (hnf b o hd e))
  have t58_1 := t58.keep (fun b o hd e => hk1 b o e (by simp) (hnf b o hd e))
  refine' i2d_call (n := 9) X T (On.of F1) ?w1 ?w2 ha0 (by decide) (by decide) (by omega) C51 t51_1 ?_
  (case w1 => ktr_room)
  (case w2 => ktr_units)
  intro r h2 tk2 k2 t51_2 f2 ⟨rT, rv, rn, rg, ri⟩
  have eN : (Builtin.Int.intBits (dval 512 J.reverse * 512) + 9 - 1) / 9 = J.length + 1 := by omega
  rw [eN, show (2 : Int) ^ 9 = 512 by decide, d1] at ri
  have F2 := Fr_but F1 k2 t51.1 h51L
  have ks2 : ∀ b o, (∃ xs n, o.data = .seq xs n) → σ.get? b = some o → h2.get? b = some o := fun b o hd e => k2 b o (fun q => by
    obtain ⟨_, _, hd⟩ := hd
    rw [q, g51] at e; cases e; cases hd) (hk1 b o e (by simp) (hnl b o hd e))
  have t58_2 := t58_1.other t51_1 (by decide) k2
  have F2k := F2.keep
  have hnf2 : ∀ b o, (∃ vs, o.data = .fields vs) → h2.get? b = some o → b ≠ L := fun b o hd e => nsf_ne F2 e hd
  obtain ⟨G2, N2, hG2, -, -⟩ := led_all F2 []
  have mr2 := hG2 _ _ rg (by simp) (ns_ne F2 rg rfl) rT
  have mw2 := hG2 _ _ (ks2 _ _ ⟨_, _, rfl⟩ hNw.1) (by simp) hNw.2.1 hNw.2.2
  have hpi2 := (hpa0.seqs ks2).toIn2 (fun b o ⟨_, _, hd⟩ e t => hG2 b o e (by simp) (ns_ne F2 e hd) t)
  clear F1 N1
  have hri := ri.length
  have hrl : (0 :: J.reverse).length = J.length + 1 := by rw [List.length_cons, List.length_reverse]
  (repeat' (first | (refine' nameX_C ?zN ?zc ?zm ?zd ?_ ?za ?zb; (case za => rfl); (case zb => rfl); (case zN => assumption); (case zc => rfl); (case zm => news_mem); (case zd => assumption)) | (((fail_if_success (with_reducible show wpAny _ _ (exec (Stmt.While _ _ _ _) _) _ _ _)); (fail_if_success (with_reducible show wpAny _ _ (exec (Stmt.For _ _ _ _ _) _) _ _ _)); (fail_if_success (with_reducible show wpAny _ _ (subscriptTail (Expr.Call _ _ _ _) _ (Value.ref _) (Value.ref _)) _ _ _)); (first | walk1 | (dsimp only; walk1))))))
  with_reducible rename Fr _ _ _ _ => F3
  with_reducible rename News _ _ _ _ => N3
  refine kba_turn (value' := PySem.Expr.Name (PySem.Str.ofString "_") ⟨0, 0, 0, 0⟩) (fun _ => rfl) ?_
  refine slice_rev F3 N3 ⟨_, rg, rfl, _, rfl⟩ ri (by omega) ?_
  intro D4 ws4 h4 F4 N4 l4 i4
  rw [List.reverse_cons, List.reverse_reverse] at i4
  clear F3 N3
  (repeat' (first | (refine' nameX_C ?zN ?zc ?zm ?zd ?_ ?za ?zb; (case za => rfl); (case zb => rfl); (case zN => assumption); (case zc => rfl); (case zm => news_mem); (case zd => assumption)) | (((fail_if_success (with_reducible show wpAny _ _ (exec (Stmt.While _ _ _ _) _) _ _ _)); (fail_if_success (with_reducible show wpAny _ _ (exec (Stmt.For _ _ _ _ _) _) _ _ _)); (first | walk1 | (dsimp only; walk1))))))
  with_reducible rename Fr _ _ _ _ => F5
  with_reducible rename News _ _ _ _ => N5
  refine' joined_call X T (On.of F5) ?w3 ?w4 (LI.of_news N5 (.tail _ mw2) wi) (PairsIn.at N5 (hpi2.mono (fun p hp => .tail _ hp))) (by omega) (by omega) ?_
  (case w3 => ktr_room)
  (case w4 => ktr_units)
  intro r6 h6 tk6 e6 f6 ⟨rT6, rv6, rn6, rg6, ri6⟩
  have ne6 := orNe N5 f6
  simp only [AllNe] at ne6
  replace F5 := Fr.ext F5 e6
  replace N5 := News_cons (News.ext N5 e6) rg6 (ns_ne F5 rg6 rfl) rT6
  clear e6 f6
  rw [hJe] at ri6
  have hr6 := ri6.length
  (repeat' (first | (refine' nameX_C ?zN ?zc ?zm ?zd ?_ ?za ?zb; (case za => rfl); (case zb => rfl); (case zN => assumption); (case zc => rfl); (case zm => news_mem); (case zd => assumption)) | (((fail_if_success (with_reducible show wpAny _ _ (exec (Stmt.While _ _ _ _) _) _ _ _)); (fail_if_success (with_reducible show wpAny _ _ (exec (Stmt.For _ _ _ _ _) _) _ _ _)); (fail_if_success (with_reducible show wpAny _ _ (binaryOp Operator.Add (Value.ref _) (Value.ref _)) _ _ _)); (first | walk1 | (dsimp only; walk1))))))
  with_reducible rename Fr _ _ _ _ => F7
  with_reducible rename News _ _ _ _ => N7
  refine kmk_add_ints F7 N7 (News.isList N7 (by news_mem)) (News.isList N7 (.head _)) ri6 (.cons _ _ .nil) ?_ (by rw [sizeLine_eq]; show J.length + 1 ≤ _; omega)
  intro D8 us h8 F8 N8 l8 i8
  have hul := i8.length
  have hal : (J ++ [(0 : Int)]).length = J.length + 1 := by rw [List.length_append]; rfl
  clear F7 N7
  try k_lt l8
  (repeat' (first | (refine' nameX_C ?zN ?zc ?zm ?zd ?_ ?za ?zb; (case za => rfl); (case zb => rfl); (case zN => assumption); (case zc => rfl); (case zm => news_mem); (case zd => assumption)) | (((fail_if_success (with_reducible show wpAny _ _ (exec (Stmt.While _ _ _ _) _) _ _ _)); (fail_if_success (with_reducible show wpAny _ _ (exec (Stmt.For _ _ _ _ _) _) _ _ _)); (fail_if_success (with_reducible show wpAny _ _ (eval (Expr.ListComp _ _ _ _) _) _ _ _)); (first | walk1 | (dsimp only; walk1))))))
  with_reducible rename Fr _ _ _ _ => F9
  with_reducible rename News _ _ _ _ => N9
  refine LCt.ListComp_T (F₀ := F9) (by with_unfolding_all rfl) (by decide) (by rfl) (by decide) (by rfl) ?_
  (repeat' (first | (((fail_if_success (with_reducible show wpAny _ _ (exec (Stmt.While _ _ _ _) _) _ _ _)); (fail_if_success (with_reducible show wpAny _ _ (exec (Stmt.For _ _ _ _ _) _) _ _ _)); (fail_if_success (with_reducible show LCt.CompSrcT _ _ _ _ _ _ _ _ _ _ _ _ _ _ _)); (first | walk1 | (dsimp only; walk1))))))
  with_reducible rename Fr _ _ _ _ => F10
  with_reducible rename News _ _ _ _ => N10
  refine LCt.CompSrcT.ledger (by rfl) F10 N10 (.tail _ (.tail _ (.tail _ (.head _)))) (by rw [sizeLine_eq, List.size_toArray, i4.length]; omega) ?_
  intro g4
  refine' kct_list (fun k => decide (k = 0)) i4 (fun k t I oI C oC D m ys h tk E' hk' hC hx F' N' off ne => ?_) ?_
  · have off0 := off
    simp only [LCg.Off3, and_true] at off
    (repeat' (first | (refine' nameX_C ?zN ?zc ?zm ?zd ?_ ?za ?zb; (case za => rfl); (case zb => rfl); (case zN => assumption); (case zc => rfl); (case zm => news_mem); (case zd => assumption)) | (((fail_if_success (with_reducible show wpAny _ _ (exec (Stmt.While _ _ _ _) _) _ _ _)); (fail_if_success (with_reducible show wpAny _ _ (exec (Stmt.For _ _ _ _ _) _) _ _ _)); (fail_if_success (with_reducible show LCg.CompEnd _ _ _ _ _ _ _ _ _ _ _ _ _ _)); (first | walk1 | (dsimp only; walk1))))))
    with_reducible rename Fr _ _ _ _ => F11
    with_reducible rename News _ _ _ _ => N11
    refine' eof_call X T (On.of F11) ?w5 ?w6 ?_
    (case w5 => ktr_room)
    (case w6 => ktr_units)
    intro h12 tk12 e12
    replace F11 := Fr.ext F11 e12
    replace N11 := News.ext N11 e12
    walk1
    show (if decide (k = 0) = true then _ else _)
    by_cases hk0 : k = 0
    · rw [if_pos (decide_eq_true hk0)]
      refine ⟨decide_eq_true hk0, ?_⟩
      (repeat' (first | (refine' nameX_C ?zN ?zc ?zm ?zd ?_ ?za ?zb; (case za => rfl); (case zb => rfl); (case zN => assumption); (case zc => rfl); (case zm => news_mem); (case zd => assumption)) | (((fail_if_success (with_reducible show wpAny _ _ (exec (Stmt.While _ _ _ _) _) _ _ _)); (fail_if_success (with_reducible show wpAny _ _ (exec (Stmt.For _ _ _ _ _) _) _ _ _)); (fail_if_success (with_reducible show LCg.CompEnd _ _ _ _ _ _ _ _ _ _ _ _ _ _)); (first | walk1 | (dsimp only; walk1))))))
      refine ⟨_, _, _, rfl, F11, N11, off0, .inr ⟨_, (.tail _ (.tail _ (.tail _ (.head _)))), rfl, _, rfl⟩, rfl, _, rfl⟩
    · rw [if_neg (by simp [hk0])]
      refine ⟨decide_eq_false hk0, _, _, _, rfl, F11, N11, off0, .inr ⟨_, (.tail _ (.tail _ (.tail _ (.head _)))), rfl, _, rfl⟩, rfl⟩
  · intro ys iy
    rw [eof_filter (fun x hx => (hdg x hx).1)] at iy
    unfold LCg.FinE
    intro D11 h11 tk11 F11 N11 o11
    simp only [LCg.Off1, and_true] at o11
    have hyl := iy.length
    clear F10 N10
    (repeat' (first | (refine' nameX_C ?zN ?zc ?zm ?zd ?_ ?za ?zb; (case za => rfl); (case zb => rfl); (case zN => assumption); (case zc => rfl); (case zm => news_mem); (case zd => assumption)) | (((fail_if_success (with_reducible show wpAny _ _ (exec (Stmt.While _ _ _ _) _) _ _ _)); (fail_if_success (with_reducible show wpAny _ _ (exec (Stmt.For _ _ _ _ _) _) _ _ _)); (first | walk1 | (dsimp only; walk1))))))
    with_reducible rename Fr _ _ _ _ => F12
    with_reducible rename News _ _ _ _ => N12
    have hk12 := kept_of F2k hG2 F12 N12 (fun p hp => by repeat (first | exact hp | refine List.Mem.tail _ ?_))
    obtain ⟨_, p51, q51', _⟩ := t51_2
    obtain ⟨_, p58, q58', _⟩ := t58_2
    exact hend _ _ F12.keep ⟨p58, hk12 _ _ q58' (by simp) (hnf2 _ _ ⟨_, rfl⟩ q58')⟩ ⟨p51, hk12 _ _ q51' (by simp) (hnf2 _ _ ⟨_, rfl⟩ q51')⟩
end
end

section
theorem startLFor : True := by
  w_top off
  trivial
set_option maxHeartbeats 1000000
theorem tld_zero (ps : List (Int × Int)) (word : List Int) : tld ps word 0 = [(0, [])] := by
  have e : Jn ps (word.take 0) = [] := by rw [List.take_zero]; exact Jn_nil
  show [(Pk ps (word.take 0), Bf ps (word.take 0))] = _
  rw [Bf_nil e]
  unfold Pk
  rw [e]; rfl
section
theorem law_for {w : World} {σ : Heap} {σg : Array GenState} {σd : Drawn} {σt : Nat} {σo : OsState} {Q : Flow → Shared → Prop} {p : Program} {loose : List Str} {mean : ExcName → Option Value} {mg mb : Str → Option Value} {hT hB : Heap} {L fa : Addr} {cd : Value} {m : Str → Option Value}
    {dp un : Nat} {fr : Option (List Env)} {gd : Option (List Code)} {rd wd pa st td : Addr} {ds fg : List Int} {ps : List (Int × Int)} {sz : Nat} {hi lo : Int} {tS tN : Tok}
    (X : (hd.heap_39 w.params).In hT) (T : Top p loose mean mg mb hT) (hdp : dp + 400 < recursionLimit) (hun : un + 2500 < cLine)
    (F : Fr hT L σ m) (C51 : CodeHd hT 55 51) (t51 : Tab hT σ 51 q51 pos51) (C58 : CodeHd hT 62 58) (t58 : Tab hT σ 58 q58 pos58)
    (m1 : m (Str.ofString "size") = some (.int (sz : Nat) tS)) (m3 : m (Str.ofString "word") = some (.ref wd)) (m4 : m (Str.ofString "pairs") = some (.ref pa)) (m5 : m (Str.ofString "standing") = some (.ref st))
    (m6 : m (Str.ofString "number") = some (.int ((1 - 2 * (ds.getD 8 0).fmod 2) * dval (2 ^ 4) fg.reverse) tN)) (m7 : m (Str.ofString "told") = some (.ref td))
    (bL : hB.get? L = none) (b51 : hB.get? 51 = none) (b58 : hB.get? 58 = none) (btd : hB.get? td = none) (hE : Ext hB σ)
    (c1 : CellIs hT hB (L + 1) (.ref rd)) (hrd : LI hT hB rd ds) (hwd : LI hT hB wd (fg.map fun k => 65 + k)) (hpa : PairsAt hT hB pa ps) (hst : StAt hT hB st (stand ps (letrs hi lo ++ [256, 257, 258, 259])))
    (htd : StAt hT σ td [(0, [])]) (htx : ∃ vs n, σ.get? td = some (listOf (List.toArray vs) n) ∧ StAll hT [td] σ vs [(0, [])])
    (hdl : ds.length = 9) (hhi : 1 ≤ hi ∧ hi ≤ 15) (hlo : 0 ≤ lo ∧ lo ≤ 15) (h5 : 5 ≤ sz) (h8 : sz ≤ 8) (hfl : fg.length = sz) (hfb : ∀ x ∈ fg, x = hi ∨ x = lo) (hfr : ∃ r, fg = hi :: r)
    (hpok : POK [65 + hi, 65 + lo] ps) (hpl : ps.length = 4)
    (hend : ∀ h' tk', Ext hT h' → GrownAt 58 h' → GrownAt 51 h' → Q (.ret (.bool true)) ⟨h', σg, σd, tk', σo⟩) :
    wpAny (model PySem.Challenge.rw_ul0003_01.row.prog w) { handled := none, depth := dp, frames := fr, guards := gd, units := un } (execs (lawBody.drop 11) (envOfC (Str.ofString "law") lawScope L fa cd)) Q (fun _ _ => False) ⟨σ, σg, σd, σt, σo⟩ := by
  have hfill : Fill Mine.hd.heap_39 PySem.Challenge.rw_ul0003_01 := by (k_fill; trivial)
  generalize hbo : lawBody.drop 11 = bo
  generalize hsc : lawScope = sc
  conv at hbo => lhs; whnf
  conv at hsc => lhs; whnf
  subst hbo hsc
  have PL := pl_of hhi hlo hfb hpok hpl
  have B : Base hT hB L (All hT [] hB) rd wd pa st td ds (fg.map fun k => 65 + k) ps (stand ps (letrs hi lo ++ [256, 257, 258, 259])) := by
    have hin : ∀ b o, hB.get? b = some o → hT.get? b = none → (b, o) ∈ All hT [] hB := fun b o e t => mem_All.mpr ⟨e, by simp, t⟩
    refine ⟨fun ⟨a, o⟩ hp => ⟨(mem_All.mp hp).1, (mem_All.mp hp).2.2⟩, hin, bL, b51, b58, btd, ?_, ?_, ?_, hpa.toIn hin, ?_⟩
    · obtain ⟨t, o, g, d⟩ := c1
      exact ⟨o, hin _ _ g t, d⟩
    · obtain ⟨t, vs, n, g, i⟩ := hrd
      exact ⟨vs, n, hin _ _ g t, i⟩
    · obtain ⟨t, vs, n, g, i⟩ := hwd
      exact ⟨vs, n, hin _ _ g t, i⟩
    · obtain ⟨t, vs, n, g, i⟩ := hst
      exact ⟨vs, n, hin _ _ g t, i⟩
  have tT := htd.1
  have hx16 : ∀ x ∈ fg, 0 ≤ x ∧ x < 16 := fun x hx => by
    rcases hfb x hx with rfl | rfl
    · exact ⟨Int.le_trans (by decide) hhi.1, Int.lt_of_le_of_lt hhi.2 (by decide)⟩
    · exact ⟨hlo.1, Int.lt_of_le_of_lt hlo.2 (by decide)⟩
  obtain ⟨G, N, hG, -, -⟩ := led_all F []
  have hkb : ∀ h', (∀ b o, σ.get? b = some o → b ∉ ([] : List Addr) → b ≠ L → h'.get? b = some o) → Ext hB h' := fun h' k b o e => k b o (hE b o e) (by simp) (fun q => by rw [q, bL] at e; cases e)
  have hFk := F.keep
  have hnl : ∀ b o, (∃ xs n, o.data = .seq xs n) → σ.get? b = some o → b ≠ L := fun b o ⟨_, _, hd⟩ e => ns_ne F e hd
  have hnf : ∀ b o, (∃ vs, o.data = .fields vs) → σ.get? b = some o → b ≠ L := fun b o hd e => nsf_ne F e hd
  replace F := Fr_names [(Str.ofString "size", .int (sz : Nat) tS), (Str.ofString "word", .ref wd), (Str.ofString "pairs", .ref pa), (Str.ofString "standing", .ref st), (Str.ofString "number", .int ((1 - 2 * (ds.getD 8 0).fmod 2) * dval (2 ^ 4) fg.reverse) tN), (Str.ofString "told", .ref td)] F (by
      intro p hp
      simp only [List.mem_cons, List.not_mem_nil, or_false] at hp
      rcases hp with rfl | rfl | rfl | rfl | rfl | rfl <;> assumption)
  walk1
  refine for_rangeS (hT := hT) (L := L) hB rfl rfl rfl rfl (LJ hT wd pa st td sz tS ((1 - 2 * (ds.getD 8 0).fmod 2) * dval (2 ^ 4) fg.reverse) tN (tld ps (fg.map fun k => 65 + k))) 1 sz (by decide) (by decide) (by omega) bL ?_ ?_ ?_ ?_
  · rintro i m h h' ⟨q1, q2, q3, q4, q5, q6, q7, q8, vs, n, q9, q10⟩ k
    exact ⟨q1, q2, q3, q4, q5, q6, q7.keepS k, q8.keepS k, vs, n, k _ _ (.inl ⟨_, _, rfl⟩) q9, q10.keep (fun b o hd _ e => k b o (.inl hd) e) (fun _ h => h)⟩
  · (repeat' (first | (refine' nameX_C ?zN ?zc ?zm ?zd ?_ ?za ?zb; (case za => rfl); (case zb => rfl); (case zN => assumption); (case zc => rfl); (case zm => news_mem); (case zd => assumption)) | (((fail_if_success (with_reducible show wpAny _ _ (exec (Stmt.While _ _ _ _) _) _ _ _)); (fail_if_success (with_reducible show wpAny _ _ (exec (Stmt.For _ _ _ _ _) _) _ _ _)); (first | walk1 | (dsimp only; walk1))))))
    with_reducible rename Fr _ _ _ _ => F4
    with_reducible rename News _ _ _ _ => N4
    have hk4 := kept_of hFk hG F4 N4 (fun p hp => hp)
    refine RangeAt.intro (by assumption) (by omega) F4 (hkb _ hk4) ⟨rfl, rfl, rfl, rfl, rfl, rfl, t51.keep (fun b o hd e => hk4 b o e (by simp) (hnf b o hd e)), t58.keep (fun b o hd e => hk4 b o e (by simp) (hnf b o hd e)), ?_⟩
    obtain ⟨vs, n, g, i⟩ := htx
    rw [tld_zero]
    exact ⟨vs, n, hk4 _ _ g (by simp) (hnl _ _ ⟨_, _, rfl⟩ g), i.keep (fun b o hd _ e => hk4 b o e (by simp) (hnl b o hd e)) (fun _ h => h)⟩
  · rintro i m h tk it oit t hi ⟨q1, q2, q3, q4, q5, q6, q7, q8, q9⟩ eB F3 hit hitd hitT hitB hitL K₁ hK₁
    refine turn_1 (i := i) (tC := t) X T hdp hun C51 C58 B ⟨hitd, hitT, hitB, hitL⟩ F3 ⟨eB, hit, q7, q8, tT, q9⟩ ((if_neg (by decide)).trans q1) ((if_neg (by decide)).trans q2) ((if_neg (by decide)).trans q3) ((if_neg (by decide)).trans q4) ((if_neg (by decide)).trans q5) ((if_neg (by decide)).trans q6) ?_ h5 h8 hi hfl hdl PL hK₁ ?_ hx16 hfr hhi.1
    · rw [if_pos rfl, show (1 + (i : Int)) = ((i + 1 : Nat) : Int) by omega]
    · rw [show (2 : Int) ^ 4 = 16 by decide]
  · rintro m h tk q eB F3
    try dsimp only
    exact law_tail X T hdp hun C51 B F3 q tT eB h5 h8 hfl PL hend
end
end

section
theorem startS6 : True := by
  w_top off
  trivial
local macro_rules | `(tactic| walk_at "idle") => `(tactic| skip)
set_option maxHeartbeats 1000000
def LetP (hT : Heap) (L : Addr) (mm : Str → Option Value) (G1 : List (Addr × Obj)) (ls : List Int) (σg : Array GenState) (σd : Drawn) (σo : OsState) (v : Value) (s' : Shared) : Prop :=
  ∃ r h' tk' vls nls, v = .ref r ∧ s' = ⟨h', σg, σd, tk', σo⟩ ∧ Fr hT L h' mm ∧ News hT L h' ((r, listOf (List.toArray vls) nls) :: G1) ∧ (∀ q ∈ G1, q.1 < r) ∧ IntsAre vls ls
section
theorem law_s6 {w : World} {σ : Heap} {σg : Array GenState} {σd : Drawn} {σt : Nat} {σo : OsState} {Q : Flow → Shared → Prop} {p : Program} {loose : List Str} {mean : ExcName → Option Value} {mg mb : Str → Option Value} {hT : Heap} {L fa : Addr} {cd : Value} {m : Str → Option Value}
    {dp un : Nat} {fr : Option (List Env)} {gd : Option (List Code)} {rd fi wd : Addr} {ds fg : List Int} {sz : Nat} {hi lo : Int} {tS tH tL : Tok}
    (X : (hd.heap_39 w.params).In hT) (T : Top p loose mean mg mb hT) (hdp : dp + 400 < recursionLimit) (hun : un + 2500 < cLine)
    (F : Fr hT L σ m) (C51 : CodeHd hT 55 51) (t51 : Tab hT σ 51 q51 pos51) (C58 : CodeHd hT 62 58) (t58 : Tab hT σ 58 q58 pos58)
    (m1 : m (Str.ofString "size") = some (.int (sz : Nat) tS)) (m2 : m (Str.ofString "figures") = some (.ref fi)) (m3 : m (Str.ofString "word") = some (.ref wd))
    (c1 : CellIs hT σ (L + 1) (.ref rd)) (c2 : CellIs hT σ (L + 1 + 1) (.int hi tH)) (c3 : CellIs hT σ (L + 1 + 1 + 1) (.int lo tL))
    (hrd : LI hT σ rd ds) (hfi : LI hT σ fi fg) (hwd : LI hT σ wd (fg.map fun k => 65 + k))
    (hdl : ds.length = 9) (hhi : 1 ≤ hi ∧ hi ≤ 15) (hlo : 0 ≤ lo ∧ lo ≤ 15) (h5 : 5 ≤ sz) (h8 : sz ≤ 8) (hfl : fg.length = sz) (hfb : ∀ x ∈ fg, x = hi ∨ x = lo) (hfr : ∃ r, fg = hi :: r)
    (hend : ∀ h' tk', Ext hT h' → GrownAt 58 h' → GrownAt 51 h' → Q (.ret (.bool true)) ⟨h', σg, σd, tk', σo⟩) :
    wpAny (model PySem.Challenge.rw_ul0003_01.row.prog w) { handled := none, depth := dp, frames := fr, guards := gd, units := un } (execs (lawBody.drop 6) (envOfC (Str.ofString "law") lawScope L fa cd)) Q (fun _ _ => False) ⟨σ, σg, σd, σt, σo⟩ := by
  have hfill : Fill Mine.hd.heap_39 PySem.Challenge.rw_ul0003_01 := by (k_fill; trivial)
  generalize hbo : lawBody.drop 6 = bo
  generalize hsc : lawScope = sc
  conv at hbo => lhs; whnf
  conv at hsc => lhs; whnf
  subst hbo hsc
  obtain ⟨G, N, hG, -, hGL⟩ := led_all F []
  obtain ⟨cT1, oD, gD, dD⟩ := id c1
  obtain ⟨cT2, oH, gH, dH⟩ := id c2
  obtain ⟨cT3, oL, gL, dL⟩ := id c3
  obtain ⟨rT, rv, rn, rg, ri⟩ := id hrd
  have mD := hG _ _ gD (by simp) (Nat.ne_of_gt (Nat.lt_succ_self L)) cT1
  have mH := hG _ _ gH (by simp) (Nat.ne_of_gt (Nat.lt_trans (Nat.lt_succ_self L) (Nat.lt_succ_self _))) cT2
  have mL := hG _ _ gL (by simp) (Nat.ne_of_gt (Nat.lt_trans (Nat.lt_succ_self L) (Nat.lt_trans (Nat.lt_succ_self _) (Nat.lt_succ_self _)))) cT3
  have mr := hG _ _ rg (by simp) (ns_ne F rg rfl) rT
  obtain ⟨fT, fv, fn, fg', fii⟩ := id hfi
  have mf := hG _ _ fg' (by simp) (ns_ne F fg' rfl) fT
  obtain ⟨wT, wv, wn, wg, wi⟩ := id hwd
  have mw := hG _ _ wg (by simp) (ns_ne F wg rfl) wT
  obtain ⟨hT51, ps51, g51, _⟩ := id t51
  obtain ⟨hT58, ps58, g58, _⟩ := id t58
  have h51L : (51 : Addr) ≠ L := nsf_ne F g51 ⟨_, rfl⟩
  have h58L : (58 : Addr) ≠ L := nsf_ne F g58 ⟨_, rfl⟩
  have hFk := F.keep
  have hFn : ∀ b o, (∃ vs, o.data = .fields vs) → σ.get? b = some o → b ≠ L := fun b o hd e => nsf_ne F e hd
  replace F := Fr_names [(Str.ofString "size", .int (sz : Nat) tS), (Str.ofString "figures", .ref fi), (Str.ofString "word", .ref wd)] F (by
      intro p hp
      simp only [List.mem_cons, List.not_mem_nil, or_false] at hp
      rcases hp with rfl | rfl | rfl <;> assumption)
  have hrl := ri.length
  (repeat' (first | (refine' nameX_C ?zN ?zc ?zm ?zd ?_ ?za ?zb; (case za => rfl); (case zb => rfl); (case zN => assumption); (case zc => rfl); (case zm => news_mem); (case zd => assumption)) | (((fail_if_success (with_reducible show wpAny _ _ (exec (Stmt.While _ _ _ _) _) _ _ _)); (fail_if_success (with_reducible show wpAny _ _ (exec (Stmt.For _ _ _ _ _) _) _ _ _)); (fail_if_success (with_reducible show wpAny _ _ (exec (Stmt.Assign [Expr.Name (Str.ofString "letters") _] _ _) _) _ _ _)); (first | ((with_reducible show wpAny _ _ _ _ _ (Shared.mk _ (Shared.gens _) _ _ _)); dsimp only) | walk1 | (dsimp only; walk1))))))
  with_reducible rename Fr _ _ _ _ => F1
  with_reducible rename News _ _ _ _ => N1
  with_reducible rename IntsAre _ (List.take _ _) => i1
  refine' pairs_call (os := [65 + hi, 65 + lo]) (ms := List.take (8 - 4 : Int).toNat (List.drop (Int.toNat 4) ds)) X T (On.of F1) ?w1 ?w2 ⟨(N1 _ (.tail _ (.head _))).2.2, _, _, (N1 _ (.tail _ (.head _))).1, .cons _ _ (.cons _ _ .nil)⟩ ⟨(N1 _ (.head _)).2.2, _, _, (N1 _ (.head _)).1, i1⟩ (by simp) (by simp) ?w3 ?_
  (case w1 => ktr_room)
  (case w2 => ktr_units)
  (case w3 => (rw [List.length_take]; simp; omega))
  intro pa h2 tk2 ps e2 f2 hpl hpok hpa
  have hpl4 : ps.length = 4 := by
    rw [hpl, List.length_take, List.length_drop, hdl]; rfl
  have ne2 := allNe_of (ne_news N1 f2)
  simp only [AllNe] at ne2
  replace F1 := Fr.ext F1 e2
  replace N1 := News.ext N1 e2
  clear hpl
  have hW : WF ps := hpok.wf (by intro y hy; simp at hy; omega)
  obtain ⟨G1, N1', hG1, -, hG1L⟩ := led_all F1 []
  have hs1 : ∀ p ∈ G, p ∈ G1 := fun p hp => hG1 _ _ (N1 _ (.tail _ (.tail _ hp))).1 (by simp) (N1 _ (.tail _ (.tail _ hp))).2.1 (N1 _ (.tail _ (.tail _ hp))).2.2
  have hpi := hpa.toIn2 (fun b o ⟨_, _, hd⟩ e t => hG1 b o e (by simp) (ns_ne F1 e hd) t)
  replace mD := hs1 _ mD
  replace mH := hs1 _ mH
  replace mL := hs1 _ mL
  replace mr := hs1 _ mr
  replace mf := hs1 _ mf
  replace mw := hs1 _ mw
  clear N1 i1 e2 f2
  (repeat' (first | (refine' nameX_C ?zN ?zc ?zm ?zd ?_ ?za ?zb; (case za => rfl); (case zb => rfl); (case zN => assumption); (case zc => rfl); (case zm => news_mem); (case zd => assumption)) | (((fail_if_success (with_reducible show wpAny _ _ (exec (Stmt.While _ _ _ _) _) _ _ _)); (fail_if_success (with_reducible show wpAny _ _ (exec (Stmt.For _ _ _ _ _) _) _ _ _)); (fail_if_success (with_reducible show wpAny _ _ (eval (Expr.IfExp _ _ _ _) _) _ _ _)); (first | ((with_reducible show wpAny _ _ _ _ _ (Shared.mk _ (Shared.gens _) _ _ _)); dsimp only) | walk1 | (dsimp only; walk1))))))
  with_reducible rename Fr _ _ _ _ => F2
  with_reducible rename News _ _ _ _ => N2
  obtain ⟨mm, F3, q1, q2, q3, q4⟩ : ∃ mm, Fr hT L _ mm ∧ mm (Str.ofString "size") = some (.int (sz : Nat) tS) ∧ mm (Str.ofString "figures") = some (.ref fi) ∧ mm (Str.ofString "word") = some (.ref wd) ∧ mm (Str.ofString "pairs") = some (.ref pa) := ⟨_, F2, rfl, rfl, rfl, rfl⟩
  clear F2
  refine wpAny_mono (Q := LetP hT L mm G1 (letrs hi lo) σg σd σo) (E := fun _ _ => False) ?w4 ?w5 (fun _ _ e => e.elim)
  case w4 =>
    (repeat' (first | (refine' nameX_C ?zN ?zc ?zm ?zd ?_ ?za ?zb; (case za => rfl); (case zb => rfl); (case zN => assumption); (case zc => rfl); (case zm => news_mem); (case zd => assumption)) | (((fail_if_success (with_reducible show wpAny _ _ (exec (Stmt.While _ _ _ _) _) _ _ _)); (fail_if_success (with_reducible show wpAny _ _ (exec (Stmt.For _ _ _ _ _) _) _ _ _)); (first | ((with_reducible show wpAny _ _ _ _ _ (Shared.mk _ (Shared.gens _) _ _ _)); dsimp only) | walk1 | (dsimp only; walk1))))))
    · with_reducible rename Fr _ _ _ _ => F4
      with_reducible rename News _ _ _ _ => N4
      refine ⟨_, _, _, _, _, rfl, rfl, F4, N4, (by assumption), ?_⟩
      rw [letrs, if_pos (by assumption)]
      exact .cons _ _ .nil
    · with_reducible rename Fr _ _ _ _ => F4
      with_reducible rename News _ _ _ _ => N4
      refine ⟨_, _, _, _, _, rfl, rfl, F4, N4, (by assumption), ?_⟩
      rw [letrs, if_neg (by assumption)]
      exact .cons _ _ (.cons _ _ .nil)
  rintro v s' ⟨rl, h4, tk4, vls, nls, rfl, rfl, F4, N4, l4, i4⟩
  clear F3 N2
  replace F4 := Fr_names [(Str.ofString "size", .int (sz : Nat) tS), (Str.ofString "figures", .ref fi), (Str.ofString "word", .ref wd), (Str.ofString "pairs", .ref pa)] F4 (by
      intro p hp
      simp only [List.mem_cons, List.not_mem_nil, or_false] at hp
      rcases hp with rfl | rfl | rfl | rfl <;> assumption)
  try dsimp only
  have hll := letrs_len hi lo
  have hlv := i4.length
  (repeat' (first | (refine' nameX_C ?zN ?zc ?zm ?zd ?_ ?za ?zb; (case za => rfl); (case zb => rfl); (case zN => assumption); (case zc => rfl); (case zm => news_mem); (case zd => assumption)) | (((fail_if_success (with_reducible show wpAny _ _ (exec (Stmt.While _ _ _ _) _) _ _ _)); (fail_if_success (with_reducible show wpAny _ _ (exec (Stmt.For _ _ _ _ _) _) _ _ _)); (first | ((with_reducible show wpAny _ _ _ _ _ (Shared.mk _ (Shared.gens _) _ _ _)); dsimp only) | walk1 | (dsimp only; walk1))))))
  with_reducible rename Fr _ _ _ _ => F5
  with_reducible rename News _ _ _ _ => N5
  with_reducible rename IntsAre _ (letrs hi lo ++ [256, 257, 258, 259]) => i5
  refine' standing_call (syms := letrs hi lo ++ [256, 257, 258, 259]) X T (On.of F5) ?w6 ?w7 ⟨(N5 _ (.head _)).2.2, _, _, (N5 _ (.head _)).1, i5⟩ (PairsIn.at N5 (hpi.mono fun p hp => .tail _ (.tail _ (.tail _ hp)))) hW ?w8 ?w9 ?w10 ?_
  (case w6 => ktr_room)
  (case w7 => ktr_units)
  (case w8 =>
    intro x hx
    rw [hpl4]
    rcases List.mem_append.mp hx with hx | hx
    · rcases letrs_mem.mp hx with rfl | rfl <;> omega
    · simp at hx; omega)
  (case w9 => omega)
  (case w10 => (rw [List.length_append]; simp; omega))
  intro st h6 tk6 sv sn e6 f6 sT sg sAll
  have hs6 : ∀ p ∈ G1, h6.get? p.1 = some p.2 ∧ p.1 ≠ L ∧ hT.get? p.1 = none := fun p hp => ⟨e6 _ _ (N5 _ (.tail _ (.tail _ (.tail _ hp)))).1, (N5 _ (.tail _ (.tail _ (.tail _ hp)))).2⟩
  replace F5 := Fr.ext F5 e6
  obtain ⟨G2, N6, hG2, -, hG2L⟩ := led_all F5 []
  have hs2 : ∀ p ∈ G1, p ∈ G2 := fun p hp => hG2 _ _ (hs6 p hp).1 (by simp) (hs6 p hp).2.1 (hs6 p hp).2.2
  replace mD := hs2 _ mD
  replace mr := hs2 _ mr
  replace mf := hs2 _ mf
  replace mw := hs2 _ mw
  have hpi2 := hpi.mono hs2
  have msg := hG2 _ _ sg (by simp) (ns_ne F5 sg rfl) sT
  have hk6 : ∀ h' m' D o', Fr hT L h' m' → News hT L h' ((D, o') :: G2) → ∀ b o, (∃ xs n, o.data = .seq xs n) → h6.get? b = some o → h'.get? b = some o := fun h' m' D o' F' N' b o ⟨_, _, hd⟩ e => kept_of F5.keep hG2 F' N' (fun p hp => .tail _ hp) b o e (by simp) (ns_ne F5 e hd)
  clear N5 i5 e6 f6
  have hfv := fii.length
  (repeat' (first | (refine' nameX_C ?zN ?zc ?zm ?zd ?_ ?za ?zb; (case za => rfl); (case zb => rfl); (case zN => assumption); (case zc => rfl); (case zm => news_mem); (case zd => assumption)) | (((fail_if_success (with_reducible show wpAny _ _ (exec (Stmt.While _ _ _ _) _) _ _ _)); (fail_if_success (with_reducible show wpAny _ _ (exec (Stmt.For _ _ _ _ _) _) _ _ _)); (first | ((with_reducible show wpAny _ _ _ _ _ (Shared.mk _ (Shared.gens _) _ _ _)); dsimp only) | walk1 | (dsimp only; walk1))))))
  with_reducible rename Fr _ _ _ _ => F9
  with_reducible rename News _ _ _ _ => N9
  with_reducible rename IntsAre _ fg.reverse => i9
  have hkp := kept_of hFk hG F9 N9 (fun p hp => .tail _ (hs2 _ (hs1 _ hp)))
  have t51_9 := t51.keep (h' := _) (fun b o hd e => hkp b o e (by simp) (hFn b o hd e))
  have t58_9 := t58.keep (h' := _) (fun b o hd e => hkp b o e (by simp) (hFn b o hd e))
  refine' d2i_call (n := 4) X T (On.of F9) ?w11 ?w12 ⟨(N9 _ (.head _)).2.2, _, _, (N9 _ (.head _)).1, i9⟩ ?w13 (by decide) ?w14 C58 ?w15 ?_
  (case w11 => ktr_room)
  (case w12 => ktr_units)
  (case w13 => (rw [List.length_reverse]; omega))
  (case w14 =>
    intro x hx
    rcases hfb x (List.mem_reverse.mp hx) with rfl | rfl <;> omega)
  (case w15 => exact t58_9)
  intro t7 h7 tk7 k7 tb7
  rename_i h9 _
  have tb51 := t51_9.other t58_9 (by decide) k7
  have F7 := Fr_but F9 k7 hT58 h58L
  have hF7k := F7.keep
  have hF7nn : ∀ b o, (∃ vs, o.data = .fields vs) → h7.get? b = some o → b ≠ L := fun b o hd e => nsf_ne F7 e hd
  have hup : ∀ b o, b ≠ L → (∀ vs, o.data ≠ .fields vs) → h9.get? b = some o → (hideAll h7 [L, 51, 58]).get? b = some o := by
    intro b o h1 h2 e
    have n51 : b ≠ 51 := fun q => by
      obtain ⟨_, ps', g', _⟩ := t51_9
      rw [q, g'] at e; cases e; exact h2 _ rfl
    have n58 : b ≠ 58 := fun q => by
      obtain ⟨_, ps', g', _⟩ := t58_9
      rw [q, g'] at e; cases e; exact h2 _ rfl
    exact hideAll_get _ (k7 b o n58 e) (by simp [h1, n51, n58])
  have hsq : Seqs h9 (hideAll h7 [L, 51, 58]) := fun b o ⟨xs, n, hd⟩ e => hup b o (ns_ne F9 e hd) (fun vs q => by rw [hd] at q; cases q) e
  have u1 := LI.seqs (LI.of_news N9 (.tail _ mr) ri) hsq
  have u2 := LI.seqs (LI.of_news N9 (.tail _ mw) wi) hsq
  have u3 := PairsAt.seqs (PairsIn.at N9 (hpi2.mono fun p hp => .tail _ hp)) hsq
  have u4 : StAt hT (hideAll h7 [L, 51, 58]) st (stand ps (letrs hi lo ++ [256, 257, 258, 259])) := ⟨sT, sv, sn, hsq _ _ ⟨_, _, rfl⟩ (N9 _ (.tail _ msg)).1, sAll.keep (fun b o hd _ e => hsq b o hd (hk6 _ _ _ _ F9 N9 b o hd e)) (fun _ h => h)⟩
  have u5 : CellIs hT (hideAll h7 [L, 51, 58]) (L + 1) (.ref rd) := ⟨cT1, oD, hup _ _ (Nat.ne_of_gt (Nat.lt_succ_self L)) (fun vs q => by rw [dD] at q; cases q) (N9 _ (.tail _ mD)).1, dD⟩
  obtain ⟨G7, N7, hG7, -, hG7L⟩ := led_all F7 []
  clear N9 F9
  (repeat' (first | (refine' nameX_C ?zN ?zc ?zm ?zd ?_ ?za ?zb; (case za => rfl); (case zb => rfl); (case zN => assumption); (case zc => rfl); (case zm => news_mem); (case zd => assumption)) | (((fail_if_success (with_reducible show wpAny _ _ (exec (Stmt.While _ _ _ _) _) _ _ _)); (fail_if_success (with_reducible show wpAny _ _ (exec (Stmt.For _ _ _ _ _) _) _ _ _)); (fail_if_success (with_reducible show wpAny _ _ (execs (Stmt.For _ _ _ _ _ :: _) _) _ _ _)); (first | ((with_reducible show wpAny _ _ _ _ _ (Shared.mk _ (Shared.gens _) _ _ _)); dsimp only) | walk1 | (dsimp only; walk1))))))
  with_reducible rename Fr _ _ _ _ => Fz
  with_reducible rename News _ _ _ _ => Nz
  rename_i cI _ l1 tI _ l2 tdA _ l3 _
  have z1 := Nz _ (.head _)
  have z2 := Nz _ (.tail _ (.head _))
  have z3 := Nz _ (.tail _ (.tail _ (.head _)))
  have hall : ∀ ex : List Addr, tI ∉ ex → cI ∉ ex → ∃ vs n, _ = some (listOf (List.toArray vs) n) ∧ StAll hT ex _ vs [(0, [])] := fun ex x1 x2 => ⟨_, _, z1.1, .cons z2.2.2 x1 z2.1 ⟨z3.2.2, _, _, z3.1, .nil⟩ x2 .nil⟩
  have hkz := kept_of hF7k hG7 Fz Nz (fun p hp => .tail _ (.tail _ (.tail _ hp)))
  have hF7n : ∀ b o, (∃ vs, o.data = .fields vs) → h7.get? b = some o → b ≠ L := fun b o hd e => hF7nn b o hd e
  refine law_for (hB := hideAll h7 [L, 51, 58]) (ps := ps) X T hdp hun Fz C51 ?_ C58 ?_ rfl rfl rfl rfl rfl rfl ?_ ?_ ?_ ?_ ?_ u5 u1 u2 u3 u4 ⟨z1.2.2, hall [] (by simp) (by simp)⟩ (hall [tdA] ?_ ?_) hdl hhi hlo h5 h8 hfl hfb hfr hpok hpl4 hend
  · exact tb51.keep fun b o hd e => hkz b o e (by simp) (hF7n b o hd e)
  · exact tb7.keep fun b o hd e => hkz b o e (by simp) (hF7n b o hd e)
  · exact hideAll_none _ (by simp)
  · exact hideAll_none _ (by simp)
  · exact hideAll_none _ (by simp)
  · cases q : (hideAll h7 [L, 51, 58]).get? tdA with
    | none => rfl
    | some o => exact absurd (of_allLt l3.2.2 _ (hG7 tdA o (of_hideAll _ q) (by simp) z1.2.1 z1.2.2)) (Nat.lt_irrefl _)
  · intro b o e
    exact hkz b o (of_hideAll _ e) (by simp) (fun q => by rw [q, hideAll_none _ (by simp)] at e; cases e)
  · exact notin1 (Nat.ne_of_lt l3.1)
  · exact notin1 (Nat.ne_of_lt l3.2.1)
end
end

section
theorem startLaw : True := by
  w_top off
  trivial
set_option maxHeartbeats 1000000
/-- what follows, held as a name -/
theorem cut_on {α : Type} {M : Model} {A : Around} {c : Sem α} {Q : α → Shared → Prop} {E : Value → Shared → Prop} {s : Shared} (h : ∀ Q' : α → Shared → Prop, (∀ f s, Q f s → Q' f s) → wpAny M A c Q' E s) : wpAny M A c Q E s := h Q fun _ _ x => x
section
theorem law_holds : PySem.Challenge.rw_ul0003_01.Holds := Mine.hd (by
  w_strict k_go0
  all_goals try k_fold
  have hfill : Fill Mine.hd.heap_39 PySem.Challenge.rw_ul0003_01 := by (k_fill; trivial)
  with_reducible rename Fr _ _ _ _ => F0
  with_reducible rename News _ _ _ _ => N0
  with_reducible rename Frag.In _ _ => X
  with_reducible rename Top _ _ _ _ _ (ghostOf _ _) => T
  with_reducible rename IntsAre _ _ => hvs
  with_reducible rename CellsAre _ _ _ => hce
  with_reducible rename (Obj.data _ = Data.cell (bindC _ _ _ (Str.ofString "low"))) => d1
  with_reducible rename (Obj.data _ = Data.cell (bindC _ _ _ (Str.ofString "high"))) => d2
  with_reducible rename (Obj.data _ = Data.cell (bindC _ _ _ (Str.ofString "drawn"))) => d3
  with_reducible rename (¬ (_ : Int) < _) => hlen
  with_reducible rename (Shared.gens _ = #[]) => hgens
  rename CodeHd _ (62, 58).1 _ => C58
  rename CodeHd _ (55, 51).1 _ => C51
  replace d1 : _ = Data.cell none := d1
  replace d2 : _ = Data.cell none := d2
  replace d3 : _ = Data.cell none := d3
  rename Shared => s1
  rename Heap => h1
  rename World => w
  rename (List Int) => ns
  rename (List Value) => vs
  with_reducible rename Addr => sc
  refine wpAny_mono (Q := fun f s' => ∃ h' tk', f = Flow.ret (Value.bool true) ∧ s' = { s1 with heap := h', toks := tk' } ∧ Ext (ghostOf s1.heap [(62, 58), (55, 51)]) h' ∧ GrownAt 58 h' ∧ GrownAt 51 h') (E := fun _ _ => False) ?z1 ?z2 (fun _ _ e => e.elim)
  case z2 =>
    rintro f s' ⟨h', tk', rfl, rfl, hE, g58, g51⟩
    refine ⟨⟨.inl ⟨_, .bool true, [], rfl, ?_, .bool true, ?_, ?_⟩, hE, rfl, hgens⟩, g58, g51, trivial⟩
    · intro cls; rfl
    · wrow_post
    · intro; exact ⟨List.nodup_nil, fun a ha => by cases ha⟩
  have gT58 : (ghostOf s1.heap [(62, 58), (55, 51)]).get? 58 = none := hideAll_none _ (by simp)
  have gT51 : (ghostOf s1.heap [(62, 58), (55, 51)]).get? 51 = none := hideAll_none _ (by simp)
  have lifted' := lifted
  clear lifted
  generalize ghostOf s1.heap [(62, 58), (55, 51)] = hT at *
  generalize hLd : s1.heap.objs.size = L at *
  with_reducible rename Below _ _ _ _ => KB
  clear hce KB
  try dsimp only
  refine cut_on ?_
  intro Q₁ hQ₁
  have hLs : s1.heap.get? L = none := by
    cases q : s1.heap.get? L with
    | none => rfl
    | some o => exact absurd (Heap.lt_size q) (by rw [hLd]; exact Nat.lt_irrefl _)
  have hlen' : ns.length ≤ 63 := by omega
  ktr_unf
  with_reducible rename Fr _ _ _ _ => F1
  with_reducible rename News _ _ _ _ => N1
  refine' draws_call X T ?w1 ?w2 ?w3 ⟨vs, lifted', hvs⟩ hlen' ?_
  (case w1 => exact On.of F1)
  (case w2 => ktr_room)
  (case w3 => ktr_units)
  intro rd h2 tk2 ds e2 f2 hdl hdb ⟨rT2, rv2, rn2, rg2, ri2⟩
  have ne2 := allNe_of (ne_news N1 f2)
  simp only [AllNe] at ne2
  replace F1 := Fr.ext F1 e2
  replace N1 := News.ext N1 e2
  replace N1 := News_cons N1 rg2 (ns_ne F1 rg2 rfl) rT2
  clear e2 f2
  (repeat' (first | (((fail_if_success (with_reducible show wpAny _ _ (exec (Stmt.While _ _ _ _) _) _ _ _)); (fail_if_success (with_reducible show wpAny _ _ (exec (Stmt.For _ _ _ _ _) _) _ _ _)); (fail_if_success (with_reducible show wpAny _ _ (exec (Stmt.Assign [Expr.Name (Str.ofString "figures") _] _ _) _) _ _ _)); (first | walk1 | (dsimp only; walk1))))))
  with_reducible rename Fr _ _ _ _ => F2
  with_reducible rename News _ _ _ _ => N2
  with_reducible rename (Obj.data _ = Data.cell (some (Value.ref _))) => dD'
  with_reducible rename (Obj.data _ = Data.cell (some (Value.int (1 + _) _))) => dH'
  with_reducible rename (Obj.data _ = Data.cell (some (Value.int (Int.fmod _ _) _))) => dL'
  have hi1 : 1 ≤ 1 + (ds.getD (Int.toNat 0) 0).fmod 15 ∧ 1 + (ds.getD (Int.toNat 0) 0).fmod 15 ≤ 15 := by
    have h1 := Int.fmod_nonneg_of_pos (ds.getD (Int.toNat 0) 0) (show (0 : Int) < 15 by decide)
    have h2 := Int.fmod_lt_of_pos (ds.getD (Int.toNat 0) 0) (show (0 : Int) < 15 by decide)
    omega
  have lo1 : 0 ≤ (ds.getD (Int.toNat 1) 0).fmod 16 ∧ (ds.getD (Int.toNat 1) 0).fmod 16 ≤ 15 := by
    have h1 := Int.fmod_nonneg_of_pos (ds.getD (Int.toNat 1) 0) (show (0 : Int) < 16 by decide)
    have h2 := Int.fmod_lt_of_pos (ds.getD (Int.toNat 1) 0) (show (0 : Int) < 16 by decide)
    omega
  obtain ⟨sz, hsz, h5, h8⟩ : ∃ sz : Nat, 5 + (ds.getD (Int.toNat 2) 0).fmod 4 = sz ∧ 5 ≤ sz ∧ sz ≤ 8 := by
    have h1 := Int.fmod_nonneg_of_pos (ds.getD (Int.toNat 2) 0) (show (0 : Int) < 4 by decide)
    have h2 := Int.fmod_lt_of_pos (ds.getD (Int.toNat 2) 0) (show (0 : Int) < 4 by decide)
    refine ⟨(5 + (ds.getD (Int.toNat 2) 0).fmod 4).toNat, ?_, ?_, ?_⟩ <;> omega
  rw [hsz] at F2
  generalize hhi : 1 + (ds.getD (Int.toNat 0) 0).fmod 15 = hi at *
  generalize hlo : (ds.getD (Int.toNat 1) 0).fmod 16 = lo at *
  obtain ⟨tH, dH⟩ : ∃ t, Obj.data _ = Data.cell (some (Value.int hi t)) := ⟨_, dH'⟩
  obtain ⟨tL, dL⟩ : ∃ t, Obj.data _ = Data.cell (some (Value.int lo t)) := ⟨_, dL'⟩
  clear dH' dL'
  obtain ⟨m2, tS, F3, q1⟩ : ∃ m2 tS, Fr hT L _ m2 ∧ m2 (Str.ofString "size") = some (.int (sz : Nat) tS) := ⟨_, _, F2, rfl⟩
  clear F2
  replace F3 := Fr_names [(Str.ofString "size", .int (sz : Nat) tS)] F3 (by
      intro p hp
      simp only [List.mem_cons, List.not_mem_nil, or_false] at hp
      rcases hp with rfl
      exact q1)
  (repeat' (first | (((fail_if_success (with_reducible show wpAny _ _ (exec (Stmt.While _ _ _ _) _) _ _ _)); (fail_if_success (with_reducible show wpAny _ _ (exec (Stmt.For _ _ _ _ _) _) _ _ _)); (fail_if_success (with_reducible show wpAny _ _ (eval (Expr.ListComp _ _ _ _) _) _ _ _)); (first | walk1 | (dsimp only; walk1))))))
  with_reducible rename Fr _ _ _ _ => F3
  refine LCg.ListComp_U (F₀ := F3) (by with_unfolding_all rfl) (by decide) (by rfl) (by decide) (by rfl) ?_
  (repeat' (first | (((fail_if_success (with_reducible show wpAny _ _ (exec (Stmt.While _ _ _ _) _) _ _ _)); (fail_if_success (with_reducible show wpAny _ _ (exec (Stmt.For _ _ _ _ _) _) _ _ _)); (fail_if_success (with_reducible show LCg.CompSrc _ _ _ _ _ _ _ _ _ _ _ _ _ _)); (first | walk1 | (dsimp only; walk1))))))
  with_reducible rename Fr _ _ _ _ => F4
  with_reducible rename News _ _ _ _ => N4
  refine LCg.CompSrc.range (n := sz - 1) (by rfl) F4 N4 (by assumption) (small_of (by decide) (by decide) (by omega) (by omega)) ?_ (by rw [sizeLine_eq]; omega) ?_
  · rw [rangeSize_one]; split <;> omega
  intro g4
  refine' kcf_range (fun k => if ((ds.getD 3 0).fdiv (2 ^ k.toNat)).fmod 2 = 1 then lo else hi) (fun k t I oI C oC D m ys h tk E' hlo' hhi' hC hx F' N' off ne mk => ?_) ?_
  · have off0 := off
    simp only [LCg.Off3, and_true] at off
    (repeat' (first | (((fail_if_success (with_reducible show wpAny _ _ (exec (Stmt.While _ _ _ _) _) _ _ _)); (fail_if_success (with_reducible show wpAny _ _ (exec (Stmt.For _ _ _ _ _) _) _ _ _)); (fail_if_success (with_reducible show LCg.CompEnd _ _ _ _ _ _ _ _ _ _ _ _ _ _)); (first | walk1 | (dsimp only; walk1))))))
    · refine ⟨_, _, _, rfl, F', N', off0, trivial, rfl, tL, ?_⟩
      show Value.int lo tL = Value.int (if _ then lo else hi) tL
      rw [if_pos (by assumption)]
    · refine ⟨_, _, _, rfl, F', N', off0, trivial, rfl, tH, ?_⟩
      show Value.int hi tH = Value.int (if _ then lo else hi) tH
      rw [if_neg (by assumption)]
  clear F4 N4
  (repeat' (first | (((fail_if_success (with_reducible show wpAny _ _ (exec (Stmt.While _ _ _ _) _) _ _ _)); (fail_if_success (with_reducible show wpAny _ _ (exec (Stmt.For _ _ _ _ _) _) _ _ _)); (fail_if_success (with_reducible show wpAny _ _ (exec (Stmt.Assign [Expr.Name (Str.ofString "word") _] _ _) _) _ _ _)); (first | walk1 | (dsimp only; walk1))))))
  with_reducible rename Fr _ _ _ _ => F5
  with_reducible rename News _ _ _ _ => N5
  with_reducible rename IntsAre _ ([hi] ++ List.map _ _) => i5
  have hfl : ([hi] ++ List.map (fun k : Int => if ((ds.getD 3 0).fdiv (2 ^ k.toNat)).fmod 2 = 1 then lo else hi) (rangeKs 1 (sz - 1))).length = sz := by
    rw [List.length_append, List.length_map, rangeKs_length, List.length_singleton]; omega
  have hfb : ∀ x ∈ [hi] ++ List.map (fun k : Int => if ((ds.getD 3 0).fdiv (2 ^ k.toNat)).fmod 2 = 1 then lo else hi) (rangeKs 1 (sz - 1)), x = hi ∨ x = lo := by
    intro x hx
    rcases List.mem_append.mp hx with hx | hx
    · exact .inl (List.mem_singleton.mp hx)
    · obtain ⟨k, _, rfl⟩ := List.mem_map.mp hx
      split
      · exact .inr rfl
      · exact .inl rfl
  obtain ⟨fr, hfr⟩ : ∃ fr, [hi] ++ List.map (fun k : Int => if ((ds.getD 3 0).fdiv (2 ^ k.toNat)).fmod 2 = 1 then lo else hi) (rangeKs 1 (sz - 1)) = hi :: fr := ⟨_, rfl⟩
  generalize [hi] ++ List.map (fun k : Int => if ((ds.getD 3 0).fdiv (2 ^ k.toNat)).fmod 2 = 1 then lo else hi) (rangeKs 1 (sz - 1)) = fg at *
  have hfs : fg.length ≤ 8 := by omega
  refine LCg.Assign_ListComp_U (F₀ := F5) (by rfl) (by with_unfolding_all rfl) (by with_unfolding_all rfl) (by decide) (by rfl) (by decide) (by rfl) (by rfl) (by rfl) ?_
  (repeat' (first | (((fail_if_success (with_reducible show wpAny _ _ (exec (Stmt.While _ _ _ _) _) _ _ _)); (fail_if_success (with_reducible show wpAny _ _ (exec (Stmt.For _ _ _ _ _) _) _ _ _)); (fail_if_success (with_reducible show LCg.CompSrc _ _ _ _ _ _ _ _ _ _ _ _ _ _)); (first | walk1 | (dsimp only; walk1))))))
  with_reducible rename Fr _ _ _ _ => F6
  with_reducible rename News _ _ _ _ => N6
  refine LCg.CompSrc.ledger (by rfl) F6 N6 (.head _) (by rw [sizeLine_eq, List.size_toArray, i5.length]; omega) ?_
  intro g6
  refine' kcf_list (fun k => 65 + k) i5 (fun k t I oI C oC D m ys h tk E' hk' hC hx F' N' off ne mk => ?_) ?_
  · have off0 := off
    simp only [LCg.Off3, and_true] at off
    (repeat' (first | (((fail_if_success (with_reducible show wpAny _ _ (exec (Stmt.While _ _ _ _) _) _ _ _)); (fail_if_success (with_reducible show wpAny _ _ (exec (Stmt.For _ _ _ _ _) _) _ _ _)); (fail_if_success (with_reducible show LCg.CompEnd _ _ _ _ _ _ _ _ _ _ _ _ _ _)); (first | walk1 | (dsimp only; walk1))))))
    exact ⟨_, _, _, rfl, F', N', off0, .inr ⟨_, .head _, rfl, _, rfl⟩, rfl, _, rfl⟩
  show ∀ ys, _ → _
  intro yw iw
  unfold LCg.FinA
  intro Dw h7 tk7 F7 N7 o7
  simp only [LCg.Off1, and_true] at o7
  clear F6 N6
  try dsimp only
  have w1 := N7 (L + 1, _) (by news_mem)
  have w2 := N7 (L + 1 + 1, _) (by news_mem)
  have w3 := N7 (L + 1 + 1 + 1, _) (by news_mem)
  have w4 := N7 (51, _) (by news_mem)
  have w5 := N7 (58, _) (by news_mem)
  refine' law_s6 (ds := ds) (fg := fg) (sz := sz) X T ?w6 ?w7 F7 C51 ⟨gT51, _, w4.1, .inl rfl⟩ C58 ⟨gT58, _, w5.1, .inl rfl⟩ rfl rfl rfl ⟨w1.2.2, _, w1.1, dD'⟩ ⟨w2.2.2, _, w2.1, dH⟩ ⟨w3.2.2, _, w3.1, dL⟩ (LI.of_news N7 (by news_mem) ri2) (LI.of_news N7 (by news_mem) i5) (LI.of_news N7 (.head _) iw) hdl hi1 lo1 h5 h8 hfl hfb ⟨fr, hfr⟩ (fun h' tk' hE g1 g2 => hQ₁ _ _ ⟨h', tk', rfl, rfl, hE, g1, g2⟩)
  (case w6 => ktr_room)
  (case w7 => ktr_units))
end
end

end
end Mine

theorem PySem.Challenge.cw_ul0003_01_holds : PySem.Challenge.rw_ul0003_01.Holds :=
  Mine.law_holds
