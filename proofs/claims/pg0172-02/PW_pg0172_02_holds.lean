import PyProof.Rows.All
import Wide.All
import OpenK.AllK
import Wide.FinOn
import KE.BitLaws
import Lean
import PySem.Challenge.RW_pg0172_02
set_option Elab.async false
set_option rowWalk.seconds 0
set_option compiler.extract_closed false
section
open PySem PySem.W PyProof.Rows PySem.Calls
set_option maxRecDepth 100000
set_option maxHeartbeats 8000000
namespace Mine
def vw : Program := view PySem.Challenge.pw_pg0172_02 [0,2,3,4,5,6,7,8,9,11,12,13,14,15,17,19,20,21,22]
local macro_rules | `(tactic| o_head $H) => `(tactic| (refine holds_open (q := Mine.vw) (loose := []) (Xt := fun s => xlAt Mine.vw [] s && recOk (RowW.records (OpenRow.toRowW (OpenLaw.row PySem.Challenge.rw_pg0172_02))) s) (XP := XL Mine.vw []) (Yf := Hook.obs $H) (Ya := Hook.val $H) (YP := Hook.says $H) (N := 1812) ?hl (Hook.of $H) (Hook.keeps $H) (fun s e => xl_of s (Bool.and_eq_true_iff.mp e).1) XL.keeps (by rfl) (by rfl) (by rfl) (fun s e => recFacts_of (Bool.and_eq_true_iff.mp e).2) (by rfl) (by first | assumption | decide +kernel) (by decide +kernel) ⟨rfl, rfl, rfl, rfl, rfl, by decide +kernel⟩ ?hw ?hc; (case hl => (intro w; kernel_rfl))))
theorem lawOk : OpenLaw.wellSaid PySem.Challenge.rw_pg0172_02 = true := by
  unfold OpenLaw.wellSaid OpenRow.wellSaid OpenRow.partSaid
  repeat' (with_reducible refine look_both ?_ ?_)
  all_goals kernel_rfl
local macro_rules | `(tactic| o_law) => `(tactic| refine holds_law (l := PySem.Challenge.rw_pg0172_02) Mine.lawOk fun said => ?_)
open_top hd for PySem.Challenge.rw_pg0172_02
end Mine
end
section
open PySem PySem.W PyProof.Rows
set_option maxRecDepth 100000
set_option maxHeartbeats 8000000
namespace Mine

/-! the code tables of the two makers of a nested def, as a tail of the ledger -/
def Tab1 (P : Addr) (ln : Nat) (qual : Str) (l : List (Addr × Obj)) : Prop :=
  l = [(P, tabObj #[])] ∨ ∃ c' oc vs t, l = [(P, tabObj #[rawInt ln, rawInt (4 : Nat), .ref c']), (c', oc)] ∧ oc.data = .fields vs ∧ vs[1]? = some (.str qual t)
def qA : Str := Str.ofString "_int2digits.<locals>.inner"
def qB : Str := Str.ofString "_digits2int.<locals>.inner"
def TabS (tl : List (Addr × Obj)) : Prop := ∃ a b, tl = a ++ b ∧ Tab1 37 35 qA a ∧ Tab1 44 50 qB b
/-- no table and no code record -/
def NT (o : Obj) : Prop := o.cls ≠ .none ∧ ∀ vs, o.data ≠ .fields vs
def NT1 (o : Obj) : Prop := (∀ vs, o.data ≠ .fields vs) ∨ (o.cls ≠ .none)
def PreOk (pre : List (Addr × Obj)) : Prop := ∀ p ∈ pre, NT1 p.2 ∨ (@Ne Nat p.1 37 ∧ @Ne Nat p.1 44)
theorem PreOk.nil : PreOk [] := fun _ h => nomatch h
theorem PreOk.cons {a : Addr} {o : Obj} {r : List (Addr × Obj)} (h : NT1 o) (x : PreOk r) : PreOk ((a, o) :: r) := fun p hp => by
  rcases List.mem_cons.mp hp with rfl | hp
  · exact .inl h
  · exact x p hp
theorem PreOk.consA {a : Addr} {o : Obj} {r : List (Addr × Obj)} (h : @Ne Nat a 37 ∧ @Ne Nat a 44) (x : PreOk r) : PreOk ((a, o) :: r) := fun p hp => by
  rcases List.mem_cons.mp hp with rfl | hp
  · exact .inr h
  · exact x p hp
theorem PreOk.append {a b : List (Addr × Obj)} (x : PreOk a) (y : PreOk b) : PreOk (a ++ b) := fun p hp => (List.mem_append.mp hp).elim (x p) (y p)

theorem News.sub {h₀ h : Heap} {L : Addr} {l l' : List (Addr × Obj)} (N : News h₀ L h l) (hs : ∀ p ∈ l', p ∈ l) : News h₀ L h l' := fun p hp => N p (hs p hp)
theorem News.inj {h₀ h : Heap} {L : Addr} {l : List (Addr × Obj)} (N : News h₀ L h l) {p q : Addr × Obj} (hp : p ∈ l) (hq : q ∈ l) (e : p.1 = q.1) : p.2 = q.2 := by
  have h1 := (N p hp).1
  have h2 := (N q hq).1
  rw [e, h2] at h1
  exact (Option.some.inj h1).symm

theorem Tab1.at {P : Addr} {ln : Nat} {qual : Str} {l : List (Addr × Obj)} (h : Tab1 P ln qual l) : ∃ ps, (P, tabObj ps) ∈ l := by
  rcases h with rfl | ⟨c', oc, vs, t, rfl, _, _⟩
  · exact ⟨_, .head _⟩
  · exact ⟨_, .head _⟩
/-- the fields of a table or of a code record -/
def TabLike (vs : Array Value) : Prop := vs = #[] ∨ (∃ c, vs[2]? = some (.ref c)) ∨ ∃ x t, vs[1]? = some (.str x t)
/-- an object that is no table and no code record -/
def NTab (o : Obj) : Prop := ∀ vs, o.data = .fields vs → ¬ TabLike vs
theorem Tab1.fields {P : Addr} {ln : Nat} {qual : Str} {l : List (Addr × Obj)} (h : Tab1 P ln qual l) : ∀ p ∈ l, ∃ vs, p.2.data = .fields vs ∧ TabLike vs := by
  rcases h with rfl | ⟨c', oc, vs, t, rfl, h1, h2⟩
  · intro p hp; rw [List.mem_singleton.mp hp]; exact ⟨_, rfl, .inl rfl⟩
  · intro p hp
    rcases List.mem_cons.mp hp with rfl | hp
    · exact ⟨_, rfl, .inr (.inl ⟨c', rfl⟩)⟩
    · rw [List.mem_singleton.mp hp]; exact ⟨_, h1, .inr (.inr ⟨_, _, h2⟩)⟩
theorem ntIter {o : Obj} {l : Addr} {i : Int} {t : Tok} (h : o.data = .fields #[.ref l, .int i t]) : NTab o := fun vs e => by
  rw [h] at e; cases e
  rintro (h | ⟨c, h⟩ | ⟨x, t, h⟩)
  · exact absurd (congrArg Array.size h) (by simp)
  · simp at h
  · simp at h
theorem ntRange {o : Obj} {a b c : Int} {t u v : Tok} (h : o.data = .fields #[.int a t, .int b u, .int c v]) : NTab o := fun vs e => by
  rw [h] at e; cases e
  rintro (h | ⟨c, h⟩ | ⟨x, t, h⟩)
  · exact absurd (congrArg Array.size h) (by simp)
  · simp at h
  · simp at h

theorem UpdF.ofSplit {d : Addr} {o : Obj} {post : List (Addr × Obj)} (h2 : ∀ p ∈ post, p.1 ≠ d) : ∀ (pre : List (Addr × Obj)), (∀ p ∈ pre, p.1 ≠ d) → UpdF d o (pre ++ (d, o) :: post) (fun o' => pre ++ (d, o') :: post)
  | [], _ => .head h2
  | p :: r, h1 => .tail (h1 p (.head _)) (UpdF.ofSplit h2 r fun q hq => h1 q (.tail _ hq))

/-- what is known of the code record behind a nested def -/
def CodeFor (c' : Addr) (qual : Str) (l : List (Addr × Obj)) : Prop := ∃ oc vs t, (c', oc) ∈ l ∧ oc.data = .fields vs ∧ vs[1]? = some (.str qual t)
theorem CodeFor.rec {h₀ h : Heap} {L c' : Addr} {qual : Str} {l news : List (Addr × Obj)} (x : CodeFor c' qual l) (N : News h₀ L h news) (hs : ∀ p ∈ l, p ∈ news) : h.CodeRec (.ref c') qual := by
  obtain ⟨oc, vs, t, hm, hd, hv⟩ := x
  exact codeRec_news N (hs _ hm) hd hv
theorem CodeFor.sub {c' : Addr} {qual : Str} {l l' : List (Addr × Obj)} (x : CodeFor c' qual l) (hs : ∀ p ∈ l, p ∈ l') : CodeFor c' qual l' :=
  let ⟨oc, vs, t, hm, r⟩ := x; ⟨oc, vs, t, hs _ hm, r⟩

section
variable {M : Model} {A : Around} {E : Value → Shared → Prop} {s : Shared} {h₀ : Heap} {L a c P : Addr} {m mg mb : Str → Option Value} {cn : Str} {cs : Scope} {ccd : Value} {cl : List (Str × Addr)} {pre post tb tl : List (Addr × Obj)}
  {p : Program} {loose : List Str} {mean : ExcName → Option Value} {name qual : Str} {params : Arguments} {body : List Stmt} {scope : Scope} {pos : Pos} {firstLine : Nat} {clos : List (Str × Addr)}

theorem nest1 {Q : Value → Shared → Prop} (F : Fr h₀ L s.heap m) (N : News h₀ L s.heap (pre ++ (tb ++ post))) (T : Top p loose mean mg mb h₀) (C : CodeHd h₀ c P) (hcd : ccd = .ref c)
    (TS : Tab1 P pos.line qual tb) (hcol : pos.col = 4) (hP37 : P = 37 ∨ P = 44) (hpre : PreOk pre) (hpost : ∀ q ∈ post, q.1 ≠ P)
    (hcl : closureFor scope (envX cn cs L a ccd cl) = pure clos)
    (h : ∀ f c' tb' ctv doc h' tk, Fr h₀ L h' m → Tab1 P pos.line qual tb' → CodeFor c' qual tb' → (∀ q ∈ tb', q ∈ tb ∨ (P = q.1 ∨ (∀ r ∈ pre ++ (tb ++ post), r.1 < q.1))) →
      News h₀ L h' ((f, fnMade name qual params body scope clos doc ((mg "__name__").getD .none) c' ctv) :: (pre ++ (tb' ++ post))) →
      (∀ q ∈ pre ++ (tb' ++ post), q.1 < f) → Q (.ref f) { s with heap := h', toks := tk }) :
    wpAny M A (makeFunction name qual params (.stmts body) scope (envX cn cs L a ccd cl) [] [] [] pos firstLine) Q E s := by
  have sep : ∀ q ∈ pre, q.1 ≠ P := fun q hq e => by
    obtain ⟨ps, hP⟩ := TS.at
    have := News.inj N (List.mem_append_left _ hq) (List.mem_append_right _ (List.mem_append_left _ hP)) e
    rcases hpre q hq with (h1 | h1) | ⟨h1, h2⟩
    · exact h1 ps (by rw [this])
    · exact h1 (by rw [this])
    · exact hP37.elim (fun hq1 => h1 (e.trans hq1)) (fun hq1 => h2 (e.trans hq1))
  rcases TS with rfl | ⟨c₁, oc, vs, t, rfl, hd, hv⟩
  · refine nest_K F N T C hcd (UpdF.ofSplit (post := post) hpost pre sep) (ps := #[]) trivial rfl hcl fun f c' oc vs t ctv doc h' tk F' N' hd hv hlt hcf => ?_
    have e : (#[] ++ #[rawInt pos.line, rawInt pos.col, Value.ref c'] : Array Value) = #[rawInt pos.line, rawInt (4 : Nat), .ref c'] := by rw [hcol]; rfl
    rw [e] at N'
    refine h f c' [(P, tabObj #[rawInt pos.line, rawInt (4 : Nat), .ref c']), (c', oc)] ctv doc h' tk F' (.inr ⟨c', oc, vs, t, rfl, hd, hv⟩) ⟨oc, vs, t, .tail _ (.head _), hd, hv⟩ ?_ ?_ ?_
    · intro q hq
      rcases List.mem_cons.mp hq with rfl | hq
      · exact .inr (.inl rfl)
      · rw [List.mem_singleton.mp hq]; exact .inr (.inr hlt)
    · refine News.sub N' fun q hq => ?_
      simp only [List.mem_cons, List.mem_append, List.not_mem_nil, or_false] at hq ⊢
      rcases hq with h | h | (h | h) | h <;> simp [h]
    · intro q hq
      simp only [List.mem_cons, List.mem_append, List.not_mem_nil, or_false] at hq
      rcases hq with h | (h | h) | h
      · exact Nat.lt_trans (hlt q (by simp [h])) hcf
      · subst h; exact Nat.lt_trans (hlt (P, tabObj #[]) (by simp)) hcf
      · subst h; exact hcf
      · exact Nat.lt_trans (hlt q (by simp [h])) hcf
  · refine nestHit_K (c' := c₁) (P := P) (ps := #[rawInt pos.line, rawInt (4 : Nat), .ref c₁]) F N T C hcd (by simp) (by simp [TriplesOk, rawInt]) (by simp [codeAmong, rawInt, hcol]) hcl fun f ctv doc h' tk F' N' hlt => ?_
    exact h f c₁ _ ctv doc h' tk F' (.inr ⟨c₁, oc, vs, t, rfl, hd, hv⟩) ⟨oc, vs, t, .tail _ (.head _), hd, hv⟩ (fun q hq => .inl hq) N' hlt

theorem code_ne {P : Addr} {qual : Str} {c' : Addr} {oc : Obj} {vs : Array Value} {t : Tok} {ps : Array Value} {l : List (Addr × Obj)} {h : Heap} (N : News h₀ L h l) (h1 : (c', oc) ∈ l) (h2 : (P, tabObj ps) ∈ l) (hd : oc.data = .fields vs) (hv : vs[1]? = some (.str qual t))
    (hps : ∀ x t, ps[1]? ≠ some (.str x t)) : c' ≠ P := fun e => by
  have := News.inj N h1 h2 e
  simp only at this
  subst this
  simp only [Data.fields.injEq] at hd
  subst hd
  exact hps _ _ hv
theorem Tab1.ne {h : Heap} {l : List (Addr × Obj)} {P P' : Addr} {ln ln' : Nat} {qual qual' : Str} {tb tb' : List (Addr × Obj)} (N : News h₀ L h l) (x : Tab1 P ln qual tb) (y : Tab1 P' ln' qual' tb') (h1 : ∀ p ∈ tb, p ∈ l) (h2 : ∀ p ∈ tb', p ∈ l) (hne : P ≠ P') : ∀ q ∈ tb, q.1 ≠ P' := by
  have hP : ∃ ps, (P', tabObj ps) ∈ tb' ∧ ∀ x t, ps[1]? ≠ some (.str x t) := by
    rcases y with rfl | ⟨c₁, oc, vs, t, rfl, hd, hv⟩
    · exact ⟨_, .head _, by simp⟩
    · exact ⟨_, .head _, by simp [rawInt]⟩
  obtain ⟨ps, hP1, hP2⟩ := hP
  rcases x with rfl | ⟨c₁, oc, vs, t, rfl, hd, hv⟩
  · intro q hq; rw [List.mem_singleton.mp hq]; exact hne
  · intro q hq
    rcases List.mem_cons.mp hq with rfl | hq
    · exact hne
    · rw [List.mem_singleton.mp hq]
      exact code_ne N (h1 _ (.tail _ (.head _))) (h2 _ hP1) hd hv hP2

/-- a table's tail after a call: at old addresses, or newer than all of pre -/
def Grow (pre tl tl' : List (Addr × Obj)) : Prop := ∀ q ∈ tl', (∃ q₀ ∈ tl, q₀.1 = q.1) ∨ (∀ p ∈ pre, p.1 < q.1)
theorem Grow.refl (pre tl : List (Addr × Obj)) : Grow pre tl tl := fun q hq => .inl ⟨q, hq, rfl⟩
theorem Grow.sub {pre pre' tl tl' : List (Addr × Obj)} (h : Grow pre tl tl') (hs : ∀ p ∈ pre', p ∈ pre) : Grow pre' tl tl' := fun q hq => (h q hq).elim .inl fun g => .inr fun p hp => g p (hs p hp)
theorem Grow.trans {pre tl tl' tl'' : List (Addr × Obj)} (h : Grow pre tl tl') (h' : Grow pre tl' tl'') : Grow pre tl tl'' := fun q hq => by
  rcases h' q hq with ⟨q₀, hq₀, e⟩ | g
  · rcases h q₀ hq₀ with ⟨q₁, hq₁, e₁⟩ | g
    · exact .inl ⟨q₁, hq₁, e₁.trans e⟩
    · exact .inr fun p hp => e ▸ g p hp
  · exact .inr g
theorem grow1 {P : Addr} {ln : Nat} {qual : Str} {pre tb post tb' : List (Addr × Obj)} (TS : Tab1 P ln qual tb) (hs : ∀ q ∈ tb', q ∈ tb ∨ (P = q.1 ∨ (∀ r ∈ pre ++ (tb ++ post), r.1 < q.1))) : ∀ q ∈ tb', (∃ q₀ ∈ tb, q₀.1 = q.1) ∨ (∀ p ∈ pre, p.1 < q.1) := fun q hq => by
  rcases hs q hq with h | h | h
  · exact .inl ⟨q, h, rfl⟩
  · obtain ⟨ps, hp⟩ := TS.at
    exact .inl ⟨_, hp, h⟩
  · exact .inr fun p hp => h p (List.mem_append_left _ hp)
theorem nestA {Q : Value → Shared → Prop} (F : Fr h₀ L s.heap m) (N : News h₀ L s.heap (pre ++ tl)) (T : Top p loose mean mg mb h₀) (C : CodeHd h₀ 41 37) (hcd : ccd = .ref 41)
    (TS : TabS tl) (hln : pos.line = 35) (hcol : pos.col = 4) (hq : qual = qA) (hpre : PreOk pre)
    (hcl : closureFor scope (envX cn cs L a ccd cl) = pure clos)
    (h : ∀ f c' tl' ctv doc h' tk, Fr h₀ L h' m → TabS tl' → Grow pre tl tl' → CodeFor c' qA tl' →
      News h₀ L h' ((f, fnMade name qual params body scope clos doc ((mg "__name__").getD .none) c' ctv) :: (pre ++ tl')) →
      (∀ q ∈ pre ++ tl', q.1 < f) → Q (.ref f) { s with heap := h', toks := tk }) :
    wpAny M A (makeFunction name qual params (.stmts body) scope (envX cn cs L a ccd cl) [] [] [] pos firstLine) Q E s := by
  obtain ⟨ta, tb, rfl, hA, hB⟩ := TS
  subst hq
  refine nest1 (post := tb) F N T C hcd (by rw [hln]; exact hA) hcol (.inl rfl) hpre (Tab1.ne N hB hA (fun p hp => by simp [hp]) (fun p hp => by simp [hp]) (by decide)) hcl fun f c' tb' ctv doc h' tk F' hT hC hs N' hlt => ?_
  exact h f c' (tb' ++ tb) ctv doc h' tk F' ⟨tb', tb, rfl, by rw [hln] at hT; exact hT, hB⟩ (fun q hq => (List.mem_append.mp hq).elim (fun h1 => (grow1 hA hs q h1).imp (fun ⟨q₀, a, b⟩ => ⟨q₀, List.mem_append_left _ a, b⟩) id) fun h1 => .inl ⟨q, List.mem_append_right _ h1, rfl⟩) (hC.sub fun p hp => List.mem_append_left _ hp) N' hlt

theorem nestB {Q : Value → Shared → Prop} (F : Fr h₀ L s.heap m) (N : News h₀ L s.heap (pre ++ tl)) (T : Top p loose mean mg mb h₀) (C : CodeHd h₀ 48 44) (hcd : ccd = .ref 48)
    (TS : TabS tl) (hln : pos.line = 50) (hcol : pos.col = 4) (hq : qual = qB) (hpre : PreOk pre)
    (hcl : closureFor scope (envX cn cs L a ccd cl) = pure clos)
    (h : ∀ f c' tl' ctv doc h' tk, Fr h₀ L h' m → TabS tl' → Grow pre tl tl' → CodeFor c' qB tl' →
      News h₀ L h' ((f, fnMade name qual params body scope clos doc ((mg "__name__").getD .none) c' ctv) :: (pre ++ tl')) →
      (∀ q ∈ pre ++ tl', q.1 < f) → Q (.ref f) { s with heap := h', toks := tk }) :
    wpAny M A (makeFunction name qual params (.stmts body) scope (envX cn cs L a ccd cl) [] [] [] pos firstLine) Q E s := by
  obtain ⟨ta, tb, rfl, hA, hB⟩ := TS
  subst hq
  have N2 : News h₀ L s.heap (pre ++ (tb ++ ta)) := News.sub N fun p hp => by
    simp only [List.mem_append] at hp ⊢
    rcases hp with h | h | h <;> simp [h]
  refine nest1 (post := ta) F N2 T C hcd (by rw [hln]; exact hB) hcol (.inr rfl) hpre (Tab1.ne N hA hB (fun p hp => by simp [hp]) (fun p hp => by simp [hp]) (by decide)) hcl fun f c' tb' ctv doc h' tk F' hT hC hs N' hlt => ?_
  refine h f c' (ta ++ tb') ctv doc h' tk F' ⟨ta, tb', rfl, hA, by rw [hln] at hT; exact hT⟩ (fun q hq => (List.mem_append.mp hq).elim (fun h1 => .inl ⟨q, List.mem_append_left _ h1, rfl⟩) fun h1 => (grow1 hB hs q h1).imp (fun ⟨q₀, a, b⟩ => ⟨q₀, List.mem_append_right _ a, b⟩) id) (hC.sub fun p hp => List.mem_append_right _ hp) ?_ ?_
  · refine News.sub N' fun p hp => ?_
    simp only [List.mem_cons, List.mem_append] at hp ⊢
    rcases hp with h | h | h | h <;> simp [h]
  · intro q hq
    refine hlt q ?_
    simp only [List.mem_append] at hq ⊢
    rcases hq with h | h | h <;> simp [h]

theorem TabS.fields (h : TabS tl) : ∀ p ∈ tl, ∃ vs, p.2.data = .fields vs ∧ TabLike vs := by
  obtain ⟨ta, tb, rfl, hA, hB⟩ := h
  exact fun p hp => (List.mem_append.mp hp).elim (hA.fields p) (hB.fields p)
theorem TabS.ne {h : Heap} {l : List (Addr × Obj)} {d : Addr} {o : Obj} (TS : TabS tl) (N : News h₀ L h l) (hm : (d, o) ∈ l) (hs : ∀ p ∈ tl, p ∈ l) (ho : NTab o) : ∀ p ∈ tl, p.1 ≠ d := fun p hp e => by
  obtain ⟨vs, hv, hl⟩ := TS.fields p hp
  have e2 : p.2 = o := News.inj N (hs p hp) hm e
  exact ho vs (by rw [← e2]; exact hv) hl
end
end Mine
namespace Mine
theorem ltNe {d B : Nat} {l : List (Addr × Obj)} (h : ∀ p ∈ l, p.1 < B) (hd : B ≤ d) : ∀ p ∈ l, p.1 ≠ d := fun p hp => Nat.ne_of_lt (Nat.lt_of_lt_of_le (h p hp) hd)
theorem ltNeL {d B : Nat} {l r : List (Addr × Obj)} (h : ∀ p ∈ l ++ r, p.1 < B) (hd : B ≤ d) : ∀ p ∈ l, p.1 ≠ d := fun p hp => Nat.ne_of_lt (Nat.lt_of_lt_of_le (h p (List.mem_append_left _ hp)) hd)
theorem appNe {d : Addr} {l r : List (Addr × Obj)} (h : ∀ p ∈ l, p.1 ≠ d) (h' : ∀ p ∈ r, p.1 ≠ d) : ∀ p ∈ l ++ r, p.1 ≠ d := fun p hp => (List.mem_append.mp hp).elim (h p) (h' p)
theorem cellNF {o : Obj} {v : Option Value} (h : o.data = .cell v) : ∀ vs, o.data ≠ .fields vs := fun vs e => by rw [h] at e; cases e
theorem ntOf {o : Obj} (h : ∀ vs, o.data ≠ .fields vs) : NTab o := fun vs e => absurd e (h vs)
theorem ntSeq {o : Obj} {xs : Array Value} {n : Nat} (h : o.data = .seq xs n) : NTab o := fun vs e => by rw [h] at e; cases e
theorem ntDict {o : Obj} {xs : Array DictEntry} {n : Nat} (h : o.data = .dict xs n) : NTab o := fun vs e => by rw [h] at e; cases e
theorem nt1 {o : Obj} (h : ∀ vs, o.data ≠ .fields vs) : NT1 o := .inl h
theorem nt2 {o : Obj} {c : String} (h : o.cls = .type c) : NT1 o := .inr (by rw [h]; exact nofun)
theorem cap {h₀ h : Heap} {L a : Addr} {o : Obj} {r : List (Addr × Obj)} (N : News h₀ L h ((a, o) :: r)) : ∃ fo, o = fo ∧ News h₀ L h ((a, fo) :: r) := ⟨o, rfl, N⟩
end Mine
namespace Mine
theorem cap3 {h₀ h : Heap} {L a d : Addr} {o od : Obj} {r : List (Addr × Obj)} (N : News h₀ L h ((a, o) :: (d, od) :: r)) :
    ∃ a' o' d' r', a' = a ∧ o = o' ∧ d' = d ∧ r = r' ∧ News h₀ L h ((a', o') :: (d', od) :: r') := ⟨a, o, d, r, rfl, rfl, rfl, rfl, N⟩
end Mine
namespace Mine
theorem append_sub {a b c : List (Addr × Obj)} (h : ∀ p ∈ b, p ∈ c) : ∀ p ∈ a ++ b, p ∈ a ++ c := fun p hp => by
  rcases List.mem_append.mp hp with h1 | h1
  · exact List.mem_append_left _ h1
  · exact List.mem_append_right _ (h p h1)
theorem cons_sub {x : Addr × Obj} {b c : List (Addr × Obj)} (h1 : x ∈ c) (h : ∀ p ∈ b, p ∈ c) : ∀ p ∈ x :: b, p ∈ c := fun p hp => by
  rcases List.mem_cons.mp hp with rfl | hp
  · exact h1
  · exact h p hp
theorem tail_sub {x : Addr × Obj} {b c : List (Addr × Obj)} (h : ∀ p ∈ b, p ∈ c) : ∀ p ∈ b, p ∈ x :: c := fun p hp => List.mem_cons_of_mem _ (h p hp)
end Mine
namespace Mine
theorem cap1 {h₀ h : Heap} {L a : Addr} {o : Obj} {r : List (Addr × Obj)} (N : News h₀ L h ((a, o) :: r)) :
    ∃ a' o' r', a' = a ∧ o = o' ∧ r = r' ∧ News h₀ L h ((a', o') :: r') := ⟨a, o, r, rfl, rfl, rfl, N⟩
end Mine
namespace Mine
/-- the walk stands still here -/
def Stop (p : Prop) : Prop := p
theorem Stop.to {p : Prop} (h : Stop p) : p := h
theorem Stop.out {p : Prop} (h : p) : Stop p := h
end Mine
namespace Mine
theorem capM {h₀ h : Heap} {L : Addr} {m : Str → Option Value} (F : Fr h₀ L h m) : ∃ m0, m = m0 ∧ Fr h₀ L h m0 := ⟨m, rfl, F⟩
end Mine
namespace Mine
theorem capI {vs : List Value} {ns : List Int} (h : IntsAre vs ns) : ∃ vs', vs' = vs ∧ IntsAre vs' ns := ⟨vs, rfl, h⟩
theorem capT {tl : List (Addr × Obj)} (h : TabS tl) : ∃ tl', tl' = tl ∧ TabS tl' := ⟨tl, rfl, h⟩
/-- a map with some names' values told apart -/
theorem map3 (m0 : Str → Option Value) (a b c : Str) {v : Option Value} (h : m0 a = v) : m0 = fun z => if z = a then v else if z = b then m0 b else if z = c then m0 c else m0 z := by
  funext z
  by_cases h1 : z = a
  · subst h1; simp [h]
  · by_cases h2 : z = b
    · subst h2; simp [h1]
    · by_cases h3 : z = c
      · subst h3; simp [h1, h2]
      · simp [h1, h2, h3]
end Mine
namespace Mine
def NeAll (d : Nat) : List (Addr × Obj) → Prop
  | [] => True
  | p :: r => @Ne Nat p.1 d ∧ NeAll d r
theorem neAll_of {d : Addr} : ∀ {l : List (Addr × Obj)}, (∀ p ∈ l, p.1 ≠ d) → NeAll d l
  | [], _ => trivial
  | p :: _, h => ⟨h p (.head _), neAll_of fun q hq => h q (.tail _ hq)⟩
theorem ltSub {d : Nat} {l l' : List (Addr × Obj)} (h : ∀ p ∈ l', p.1 < d) (hs : ∀ p ∈ l, p ∈ l') : ∀ p ∈ l, p.1 ≠ d := fun p hp => Nat.ne_of_lt (h p (hs p hp))
theorem neSub {d : Nat} {l l' : List (Addr × Obj)} (h : ∀ p ∈ l', p.1 ≠ d) (hs : ∀ p ∈ l, p ∈ l') : ∀ p ∈ l, p.1 ≠ d := fun p hp => h p (hs p hp)
end Mine
namespace Mine
theorem map3_up {m0 : Str → Option Value} {a b c : Str} {v1 v2 v3 w1 w2 w3 : Option Value} : (fun z => if z = a then v1 else if z = b then v2 else if z = c then v3 else (fun z => if z = a then w1 else if z = b then w2 else if z = c then w3 else m0 z) z) = fun z => if z = a then v1 else if z = b then v2 else if z = c then v3 else m0 z := by
  funext z
  by_cases h1 : z = a
  · simp [h1]
  · by_cases h2 : z = b
    · simp [h1, h2]
    · by_cases h3 : z = c
      · simp [h1, h2, h3]
      · simp [h1, h2, h3]
end Mine
namespace Mine
theorem News.drop {h₀ h : Heap} {L : Addr} {x : Addr × Obj} {l : List (Addr × Obj)} (N : News h₀ L h (x :: l)) : News h₀ L h l := fun p hp => N p (.tail _ hp)
end Mine
namespace Mine
theorem ltSubs {d : Nat} {l l' : List (Addr × Obj)} (h : ∀ p ∈ l', p.1 < d) (hs : ∀ p ∈ l, p ∈ l') : ∀ p ∈ l, p.1 < d := fun p hp => h p (hs p hp)
end Mine
namespace Mine
theorem capS {l : List (Str × Tok)} {X : List Str} (h : List.map (fun x => x.1) l = X) : ∃ l', l' = l ∧ List.map (fun x => x.1) l' = X := ⟨l, rfl, h⟩
theorem map1 (m0 : Str → Option Value) (a : Str) : m0 = fun z => if z = a then m0 a else m0 z := by
  funext z
  by_cases h1 : z = a
  · subst h1; simp
  · simp [h1]
theorem map1_up {m0 : Str → Option Value} {a : Str} {v w : Option Value} : (fun z => if z = a then v else (fun z => if z = a then w else m0 z) z) = fun z => if z = a then v else m0 z := by
  funext z
  by_cases h1 : z = a
  · simp [h1]
  · simp [h1]
end Mine
end
section
open PySem PyProof.Rows
namespace Mine
theorem and_low (y s : Nat) : y &&& ((y / 2 ^ s) * 2 ^ s) = (y / 2 ^ s) * 2 ^ s := by
  have e : (y / 2 ^ s) * 2 ^ s = (y >>> s) <<< s := by rw [Nat.shiftLeft_eq, Nat.shiftRight_eq_div_pow]
  rw [e]
  apply Nat.eq_of_testBit_eq
  intro i
  rw [Nat.testBit_and, Nat.testBit_shiftLeft, Nat.testBit_shiftRight]
  by_cases h : s ≤ i
  · have : s + (i - s) = i := by omega
    simp [h, this]
  · simp [h]
theorem xor_low {y : Int} (hy : 0 ≤ y) (s : Nat) : Builtin.bitXor y (y.fdiv (2 ^ s) * 2 ^ s) = y % 2 ^ s := by
  have hp : (0 : Int) < 2 ^ s := Int.pow_pos (by decide)
  rw [Int.fdiv_eq_ediv_of_nonneg _ (Int.le_of_lt hp), bitXor_and]
  have h0 : 0 ≤ y / 2 ^ s * 2 ^ s := Int.mul_nonneg (Int.ediv_nonneg hy (Int.le_of_lt hp)) (Int.le_of_lt hp)
  rw [bitAnd_pp hy h0]
  have e : (y / 2 ^ s * 2 ^ s).toNat = (y.toNat / 2 ^ s) * 2 ^ s := by
    obtain ⟨n, rfl⟩ := Int.eq_ofNat_of_zero_le hy
    have : ((n : Int) / 2 ^ s * 2 ^ s) = ((n / 2 ^ s * 2 ^ s : Nat) : Int) := by
      rw [Int.natCast_mul, Int.natCast_ediv, Int.natCast_pow]; rfl
    rw [this, Int.toNat_natCast, Int.toNat_natCast]
  rw [e, and_low, ← e, Int.toNat_of_nonneg h0]
  have := Int.emod_add_mul_ediv y (2 ^ s)
  rw [Int.mul_comm] at this
  omega

/-- the k digits of y to the base b, the lowest first -/
def digI (b : Int) : Nat → Int → List Int
  | 0, _ => []
  | k + 1, y => y % b :: digI b k (y / b)
theorem digI_length (b : Int) : ∀ k y, (digI b k y).length = k
  | 0, _ => rfl
  | k + 1, y => by simp [digI, digI_length b k]
theorem pow_succ' (b : Int) (i : Nat) : b ^ (i + 1) = b * b ^ i := by rw [Int.pow_succ, Int.mul_comm]
theorem digI_split {b : Int} (hb : 0 < b) (j : Nat) : ∀ i y, digI b (i + j) y = digI b i (y % b ^ i) ++ digI b j (y / b ^ i)
  | 0, y => by simp [digI]
  | i + 1, y => by
    have hp : 0 < b ^ i := Int.pow_pos hb
    rw [show i + 1 + j = (i + j) + 1 by omega]
    simp only [digI, List.cons_append]
    have e1 : y % b ^ (i + 1) % b = y % b := by
      rw [pow_succ']; exact Int.emod_emod_of_dvd y (Int.dvd_mul_right b (b ^ i))
    have e2 : y % b ^ (i + 1) / b = y / b % b ^ i := by
      rw [pow_succ', Int.emod_def, Int.emod_def]
      have : y - b * b ^ i * (y / (b * b ^ i)) = y + b * (-(b ^ i * (y / (b * b ^ i)))) := by rw [Int.mul_neg, ← Int.mul_assoc]; omega
      rw [this, Int.add_mul_ediv_left _ _ (Int.ne_of_gt hb), Int.ediv_ediv_of_nonneg (Int.le_of_lt hb)]
      omega
    have e3 : y / b ^ (i + 1) = y / b / b ^ i := by rw [pow_succ', Int.ediv_ediv_of_nonneg (Int.le_of_lt hb)]
    rw [e1, e2, e3, digI_split hb j i (y / b)]
end Mine
namespace Mine
theorem fdiv2 (x : Int) : x.fdiv (2 ^ Int.toNat 1) = x / 2 := by
  show x.fdiv 2 = _
  rw [Int.fdiv_eq_ediv_of_nonneg _ (by decide)]
theorem pow_nat_cast (n : Int) (k : Nat) : ((2 : Int) ^ n.toNat) ^ k = 2 ^ (n.toNat * k) := by rw [Int.pow_mul]
theorem shift_toNat {d n : Int} (hd : 0 ≤ d) (hn : 0 ≤ n) : (d * n).toNat = n.toNat * d.toNat := by
  obtain ⟨a, rfl⟩ := Int.eq_ofNat_of_zero_le hd
  obtain ⟨b, rfl⟩ := Int.eq_ofNat_of_zero_le hn
  rw [← Int.natCast_mul, Int.toNat_natCast, Int.toNat_natCast, Int.toNat_natCast, Nat.mul_comm]
theorem fdiv_pow_lt {y : Int} {s : Nat} {B : Nat} (hy : 0 ≤ y) (hB : y < (B : Int)) : (y.fdiv (2 ^ s)).natAbs < B := by
  have hp : (0 : Int) < 2 ^ s := Int.pow_pos (by decide)
  rw [Int.fdiv_eq_ediv_of_nonneg _ (Int.le_of_lt hp)]
  have h1 : 0 ≤ y / 2 ^ s := Int.ediv_nonneg hy (Int.le_of_lt hp)
  have h2 : y / 2 ^ s ≤ y := Int.ediv_le_self _ hy
  omega
/-- the two halves of a number cut by its digits -/
theorem halves {b y : Int} {i j : Nat} (hb : 0 < b) (hy : 0 ≤ y) (h : y < b ^ (i + j)) : 0 ≤ y % b ^ i ∧ y % b ^ i < b ^ i ∧ 0 ≤ y / b ^ i ∧ y / b ^ i < b ^ j ∧ y % b ^ i ≤ y ∧ y / b ^ i ≤ y := by
  have hp : 0 < b ^ i := Int.pow_pos hb
  have h0 := Int.ediv_nonneg hy (Int.le_of_lt hp)
  refine ⟨Int.emod_nonneg _ (Int.ne_of_gt hp), Int.emod_lt_of_pos _ hp, h0, ?_, ?_, Int.ediv_le_self _ hy⟩
  · rw [Int.pow_add] at h
    exact Int.ediv_lt_of_lt_mul hp (by rw [Int.mul_comm]; exact h)
  · have := Int.emod_add_mul_ediv y (b ^ i)
    have := Int.mul_nonneg (Int.le_of_lt hp) h0
    omega
theorem set_one {b y : Int} {ns : List Int} {l : Nat} (h : l < ns.length) (h0 : 0 ≤ y) (h1 : y < b ^ 1) : ns.set l y = ns.take l ++ digI b 1 y ++ ns.drop (l + 1) := by
  rw [Int.pow_one] at h1
  simp only [digI, Int.emod_eq_of_lt h0 h1, List.append_assoc, List.singleton_append]
  exact List.set_eq_take_append_cons_drop .. |>.trans (by rw [if_pos h])
theorem put_two {b y : Int} {ns : List Int} {l i j : Nat} (hb : 0 < b) (h : l + i + j ≤ ns.length) :
    ((ns.take l ++ digI b i (y % b ^ i) ++ ns.drop (l + i)).take (l + i) ++ digI b j (y / b ^ i) ++ (ns.take l ++ digI b i (y % b ^ i) ++ ns.drop (l + i)).drop (l + i + j)) = ns.take l ++ digI b (i + j) y ++ ns.drop (l + i + j) := by
  have hl : (ns.take l ++ digI b i (y % b ^ i)).length = l + i := by rw [List.length_append, List.length_take, digI_length]; omega
  rw [List.take_append_of_le_length (by omega), List.take_of_length_le (by omega), digI_split hb j i y]
  rw [List.drop_append, List.drop_of_length_le (by omega), hl, List.nil_append, List.drop_drop]
  have : l + i + (l + i + j - (l + i)) = l + i + j := by omega
  rw [this]
  simp only [List.append_assoc]
end Mine
namespace Mine
def ndig (x n : Int) : Nat := ((Builtin.Int.intBits x : Int) + n - 1).fdiv n |>.toNat
theorem intBits_lt {x : Int} (hx : 0 ≤ x) : x < 2 ^ Builtin.Int.intBits x := by
  unfold Builtin.Int.intBits
  by_cases h : x = 0
  · subst h; simp
  · rw [if_neg (by simpa using h)]
    have h1 := Nat.lt_log2_self (n := x.natAbs)
    have h2 : (x.natAbs : Int) < ((2 ^ (x.natAbs.log2 + 1) : Nat) : Int) := by omega
    rw [Int.natCast_pow] at h2
    have h3 : (x.natAbs : Int) = x := by omega
    rw [h3] at h2
    exact h2
theorem intBits_le {x : Int} {k : Nat} (hx : 0 ≤ x) (h : x < 2 ^ k) : Builtin.Int.intBits x ≤ k := by
  unfold Builtin.Int.intBits
  by_cases h0 : x = 0
  · subst h0; simp
  · rw [if_neg (by simpa using h0)]
    have h1 : x.natAbs < 2 ^ k := by
      have : ((2 ^ k : Nat) : Int) = (2 : Int) ^ k := by rw [Int.natCast_pow]; rfl
      omega
    exact (Nat.log2_lt (by omega)).mpr h1
theorem pow2_mono {a b : Nat} (h : a ≤ b) : (2 : Int) ^ a ≤ 2 ^ b := by
  have := Nat.pow_le_pow_right (n := 2) (by decide) h
  have e : ∀ k : Nat, ((2 ^ k : Nat) : Int) = (2 : Int) ^ k := fun k => by rw [Int.natCast_pow]; rfl
  rw [← e, ← e]
  omega
theorem ndig_facts {x n : Int} (hx : 0 ≤ x) (hx2 : x < 2 ^ 62) (hn : 0 < n) :
    0 ≤ ((Builtin.Int.intBits x : Int) + n - 1).fdiv n ∧ ((Builtin.Int.intBits x : Int) + n - 1).fdiv n ≤ 62 ∧ x < (2 ^ n.toNat) ^ ndig x n := by
  have h1 := intBits_le hx hx2
  have h2 := intBits_lt hx
  rw [Int.fdiv_eq_ediv_of_nonneg _ (Int.le_of_lt hn)]
  have h3 : 0 ≤ ((Builtin.Int.intBits x : Int) + n - 1) / n := Int.ediv_nonneg (by omega) (by omega)
  refine ⟨h3, ?_, ?_⟩
  · have : ((Builtin.Int.intBits x : Int) + n - 1) / n < 63 := Int.ediv_lt_of_lt_mul hn (by omega)
    omega
  · unfold ndig
    rw [Int.fdiv_eq_ediv_of_nonneg _ (Int.le_of_lt hn), ← Int.pow_mul]
    have h4 : (Builtin.Int.intBits x : Int) ≤ n * (((Builtin.Int.intBits x : Int) + n - 1) / n) := by
      have := Int.emod_add_mul_ediv ((Builtin.Int.intBits x : Int) + n - 1) n
      have := Int.emod_lt_of_pos ((Builtin.Int.intBits x : Int) + n - 1) hn
      omega
    have h5 : Builtin.Int.intBits x ≤ n.toNat * (((Builtin.Int.intBits x : Int) + n - 1) / n).toNat := by
      have : ((n.toNat * (((Builtin.Int.intBits x : Int) + n - 1) / n).toNat : Nat) : Int) = n * (((Builtin.Int.intBits x : Int) + n - 1) / n) := by
        rw [Int.natCast_mul, Int.toNat_of_nonneg (by omega), Int.toNat_of_nonneg h3]
      omega
    exact Int.lt_of_lt_of_le h2 (pow2_mono h5)
theorem ndig_zero {n : Int} (hn : 0 < n) : ((Builtin.Int.intBits 0 : Int) + n - 1).fdiv n = 0 := by
  rw [Int.fdiv_eq_ediv_of_nonneg _ (Int.le_of_lt hn)]
  have : ((Builtin.Int.intBits 0 : Nat) : Int) = 0 := rfl
  rw [this]
  exact Int.ediv_eq_zero_of_lt (by omega) (by omega)
end Mine
namespace Mine
theorem fin_put {vs : List Value} {l : List Int} {b x hi : Int} {k : Nat} (hl : l.length = k) (hh : hi = k) (I : IntsAre vs (l.take (Int.toNat 0) ++ digI b (hi - 0).toNat x ++ l.drop hi.toNat)) : IntsAre vs (digI b k x) := by
  subst hh
  have e1 : ((k : Int) - 0).toNat = k := by omega
  have e2 : ((k : Int)).toNat = k := by omega
  rw [e1, e2, List.drop_of_length_le (by omega), List.append_nil] at I
  exact I
end Mine
namespace Mine
/-- the number of its digits to the base b, the lowest first -/
def undig (b : Int) : List Int → Int
  | [] => 0
  | d :: r => d + b * undig b r
theorem undig_nonneg {b : Int} (hb : 0 < b) : ∀ {l : List Int}, (∀ d ∈ l, 0 ≤ d) → 0 ≤ undig b l
  | [], _ => Int.le_refl _
  | d :: r, h => by
    have h1 := h d (.head _)
    have h2 := undig_nonneg hb (l := r) fun x hx => h x (.tail _ hx)
    have h3 := Int.mul_nonneg (Int.le_of_lt hb) h2
    simp only [undig]; omega
theorem undig_append (b : Int) (l : List Int) : ∀ (k : List Int), undig b (k ++ l) = undig b k + b ^ k.length * undig b l
  | [] => by simp [undig]
  | d :: r => by
    simp only [List.cons_append, undig, undig_append b l r, List.length_cons, pow_succ', Int.mul_add, Int.mul_assoc]
    omega
theorem undig_digI {b : Int} (hb : 0 < b) : ∀ (k : Nat) {y : Int}, 0 ≤ y → y < b ^ k → undig b (digI b k y) = y
  | 0, y, h0, h1 => by simp at h1; simp only [digI, undig]; omega
  | k + 1, y, h0, h1 => by
    have h2 : y / b < b ^ k := Int.ediv_lt_of_lt_mul hb (by rw [pow_succ'] at h1; rw [Int.mul_comm]; exact h1)
    simp only [digI, undig, undig_digI hb k (Int.ediv_nonneg h0 (Int.le_of_lt hb)) h2]
    have := Int.emod_add_mul_ediv y b
    omega
theorem digI_nonneg {b : Int} (hb : 0 < b) : ∀ (k : Nat) (y : Int), ∀ d ∈ digI b k y, 0 ≤ d ∧ d < b
  | 0, _, d, h => by simp [digI] at h
  | k + 1, y, d, h => by
    simp only [digI, List.mem_cons] at h
    rcases h with rfl | h
    · exact ⟨Int.emod_nonneg _ (Int.ne_of_gt hb), Int.emod_lt_of_pos _ hb⟩
    · exact digI_nonneg hb k _ d h
def slice (l : List Int) (lo hi : Nat) : List Int := (l.drop lo).take (hi - lo)
theorem slice_cut {l : List Int} {lo mid hi : Nat} (h1 : lo ≤ mid) (h2 : mid ≤ hi) : slice l lo hi = slice l lo mid ++ slice l mid hi := by
  unfold slice
  have e : hi - lo = (mid - lo) + (hi - mid) := by omega
  rw [e, List.take_add, List.drop_drop]
  have e2 : lo + (mid - lo) = mid := by omega
  rw [e2]
theorem slice_length {l : List Int} {lo hi : Nat} (h2 : hi ≤ l.length) : (slice l lo hi).length = hi - lo := by
  unfold slice; rw [List.length_take, List.length_drop]; omega
theorem slice_mem {l : List Int} {lo hi : Nat} : ∀ d ∈ slice l lo hi, d ∈ l := fun _ hd => List.mem_of_mem_drop (List.mem_of_mem_take hd)
theorem slice_one {l : List Int} {lo : Nat} (h : lo < l.length) : slice l lo (lo + 1) = [l.getD lo 0] := by
  unfold slice
  rw [show lo + 1 - lo = 1 by omega, List.drop_eq_getElem_cons h, List.take_succ_cons, List.take_zero, List.getD_eq_getElem?_getD, List.getElem?_eq_getElem h]
  rfl
theorem slice_all (l : List Int) : slice l 0 l.length = l := by simp [slice]
/-- the two parts of a slice's number: both no greater than the whole -/
theorem undig_parts {b : Int} (hb : 0 < b) {l : List Int} (hl : ∀ d ∈ l, 0 ≤ d) {lo mid hi : Nat} (h1 : lo ≤ mid) (h2 : mid ≤ hi) (h3 : hi ≤ l.length) :
    undig b (slice l lo hi) = undig b (slice l lo mid) + b ^ (mid - lo) * undig b (slice l mid hi) ∧ 0 ≤ undig b (slice l lo mid) ∧ 0 ≤ undig b (slice l mid hi) ∧
    undig b (slice l lo mid) ≤ undig b (slice l lo hi) ∧ undig b (slice l mid hi) ≤ undig b (slice l lo hi) := by
  have e := undig_append b (slice l mid hi) (slice l lo mid)
  rw [← slice_cut h1 h2, slice_length (by omega)] at e
  have a1 := undig_nonneg hb (l := slice l lo mid) fun d hd => hl d (slice_mem d hd)
  have a2 := undig_nonneg hb (l := slice l mid hi) fun d hd => hl d (slice_mem d hd)
  have hp : 0 < b ^ (mid - lo) := Int.pow_pos hb
  have a3 := Int.mul_nonneg (Int.le_of_lt hp) a2
  have a4 : 1 * undig b (slice l mid hi) ≤ b ^ (mid - lo) * undig b (slice l mid hi) := Int.mul_le_mul_of_nonneg_right (by omega) a2
  exact ⟨e, a1, a2, by omega, by omega⟩
end Mine
namespace Mine
theorem ints_at {vs : List Value} {ns : List Int} (h : IntsAre vs ns) {i : Nat} {v : Value} (hv : vs[i]? = some v) : ∃ t, i < ns.length ∧ v = .int (ns.getD i 0) t := by
  have hl : i < ns.length := by
    rw [← h.length]
    exact (List.getElem?_eq_some_iff.mp hv).1
  obtain ⟨t, ht⟩ := h.get i ns[i] (by simp [hl])
  rw [ht] at hv
  refine ⟨t, hl, ?_⟩
  rw [List.getD_eq_getElem?_getD, List.getElem?_eq_getElem hl]
  exact (Option.some.inj hv).symm
theorem ints_rev {vs : List Value} {ns : List Int} (h : IntsAre vs ns) : IntsAre vs.reverse ns.reverse := by
  induction h with
  | nil => exact .nil
  | cons i t h ih =>
    rw [List.reverse_cons, List.reverse_cons]
    exact IntsAre.append ih (.cons i t .nil)
/-- the state of a division digit by digit, i digits from above done -/
structure DivInv (y B : Int) (ds : List Int) (i : Nat) (r : Int) (qs : List Int) : Prop where
  len : qs.length = i
  r0 : 0 ≤ r
  r1 : r < y
  q : ∀ q ∈ qs, 0 ≤ q ∧ q < B
  eq : undig B (ds.drop (ds.length - i)) = y * undig B qs.reverse + r
theorem DivInv.start {y B : Int} {ds : List Int} (hy : 0 < y) : DivInv y B ds 0 0 [] := ⟨rfl, Int.le_refl _, hy, (fun q h => by cases h), by simp [undig]⟩
theorem DivInv.step {y B : Int} {ds : List Int} {i : Nat} {r : Int} {qs : List Int} (h : DivInv y B ds i r qs) (hy : 0 < y) (hB : 0 < B) (hi : i < ds.length) (hds : ∀ d ∈ ds, 0 ≤ d ∧ d < B) :
    DivInv y B ds (i + 1) ((r * B + ds.reverse.getD i 0).fmod y) (qs ++ [(r * B + ds.reverse.getD i 0).fdiv y]) ∧ 0 ≤ r * B + ds.reverse.getD i 0 ∧ r * B + ds.reverse.getD i 0 < y * B := by
  have hd : ds.reverse.getD i 0 = ds.getD (ds.length - 1 - i) 0 := by
    rw [List.getD_eq_getElem?_getD, List.getD_eq_getElem?_getD, List.getElem?_reverse hi]
  have hlt : ds.length - 1 - i < ds.length := by omega
  have hmem : ds.getD (ds.length - 1 - i) 0 ∈ ds := by
    rw [List.getD_eq_getElem?_getD, List.getElem?_eq_getElem hlt]
    exact List.getElem_mem hlt
  obtain ⟨d0, d1⟩ := hds _ hmem
  rw [hd]
  generalize hdd : ds.getD (ds.length - 1 - i) 0 = d at *
  have hr := h.r0
  have hr1 := h.r1
  have a0 : 0 ≤ r * B := Int.mul_nonneg hr (Int.le_of_lt hB)
  have a1 : (r + 1) * B ≤ y * B := Int.mul_le_mul_of_nonneg_right (by omega) (Int.le_of_lt hB)
  rw [Int.add_mul, Int.one_mul] at a1
  have n0 : 0 ≤ r * B + d := by omega
  have n1 : r * B + d < y * B := by omega
  rw [Int.fdiv_eq_ediv_of_nonneg _ (Int.le_of_lt hy), Int.fmod_eq_emod_of_nonneg _ (Int.le_of_lt hy)]
  have e := Int.emod_add_mul_ediv (r * B + d) y
  refine ⟨⟨by simp [h.len], Int.emod_nonneg _ (Int.ne_of_gt hy), Int.emod_lt_of_pos _ hy, ?_, ?_⟩, n0, n1⟩
  · intro q hq
    rcases List.mem_append.mp hq with hq | hq
    · exact h.q q hq
    · rw [List.mem_singleton.mp hq]
      exact ⟨Int.ediv_nonneg n0 (Int.le_of_lt hy), Int.ediv_lt_of_lt_mul hy (by rw [Int.mul_comm B y]; exact n1)⟩
  · have e2 : ds.length - (i + 1) = ds.length - 1 - i := by omega
    have e3 : ds.drop (ds.length - (i + 1)) = d :: ds.drop (ds.length - i) := by
      rw [e2, List.drop_eq_getElem_cons hlt]
      have : ds[ds.length - 1 - i] = d := by rw [← hdd, List.getD_eq_getElem?_getD, List.getElem?_eq_getElem hlt]; rfl
      rw [this]
      congr 2
      omega
    rw [e3, List.reverse_append, List.reverse_singleton, List.singleton_append]
    simp only [undig]
    rw [h.eq, Int.mul_add, Int.mul_add]
    have c1 : B * (y * undig B qs.reverse) = y * (B * undig B qs.reverse) := by rw [← Int.mul_assoc, Int.mul_comm B y, Int.mul_assoc]
    have c2 : B * r = r * B := Int.mul_comm _ _
    omega
theorem DivInv.last {y B x : Int} {K : Nat} {r : Int} {qs : List Int} (hy : 0 < y) (hB : 0 < B) (hx : 0 ≤ x) (hxK : x < B ^ K) (h : DivInv y B (digI B K x) K r qs) :
    undig B qs.reverse = x / y ∧ r = x % y ∧ (∀ d ∈ qs.reverse, 0 ≤ d) ∧ undig B qs.reverse ≤ x := by
  have e := h.eq
  rw [digI_length, Nat.sub_self, List.drop_zero, undig_digI hB K hx hxK] at e
  have hn : ∀ d ∈ qs.reverse, 0 ≤ d := fun d hd => (h.q d (List.mem_reverse.mp hd)).1
  have h0 := h.r0
  have h1 := h.r1
  have e1 : x / y = undig B qs.reverse := by
    rw [e, Int.add_comm, Int.add_mul_ediv_left _ _ (Int.ne_of_gt hy), Int.ediv_eq_zero_of_lt h0 h1]
    omega
  have e2 : x % y = r := by
    rw [e, Int.add_comm, Int.add_mul_emod_self_left, Int.emod_eq_of_lt h0 h1]
  have p1 := undig_nonneg hB hn
  have p2 : 1 * undig B qs.reverse ≤ y * undig B qs.reverse := Int.mul_le_mul_of_nonneg_right (by omega) p1
  exact ⟨e1.symm, e2.symm, hn, by omega⟩
theorem bits_pos {y : Int} (hy : 0 < y) : 0 < Builtin.Int.intBits y := by
  unfold Builtin.Int.intBits
  rw [if_neg (by simp; omega)]
  omega
end Mine
namespace Mine
theorem fd_pos (x : Int) {y : Int} (hy : 0 < y) : x / y = x.fdiv y ∧ x % y = x.fmod y :=
  ⟨(Int.fdiv_eq_ediv_of_nonneg _ (Int.le_of_lt hy)).symm, (Int.fmod_eq_emod_of_nonneg _ (Int.le_of_lt hy)).symm⟩
theorem fd_not (x : Int) {y : Int} (hy : 0 < y) : Builtin.bitNot (Builtin.bitNot x / y) = x.fdiv y ∧ y + Builtin.bitNot (Builtin.bitNot x % y) = x.fmod y := by
  obtain ⟨a, b⟩ := fd_pos x hy
  rw [← a, ← b]
  have hb : ∀ z, Builtin.bitNot z = -z - 1 := fun _ => rfl
  rw [hb, hb, hb]
  have e := Int.emod_add_mul_ediv (-x - 1) y
  have r0 := Int.emod_nonneg (-x - 1) (Int.ne_of_gt hy)
  have r1 := Int.emod_lt_of_pos (-x - 1) hy
  have u := (Int.ediv_emod_unique (a := x) (r := y + (-((-x - 1) % y) - 1)) (q := -((-x - 1) / y) - 1) hy).mpr ⟨by rw [Int.mul_sub, Int.mul_neg]; omega, by omega, by omega⟩
  exact ⟨u.1.symm, u.2.symm⟩
theorem fd_neg (x y : Int) : (-x).fdiv (-y) = x.fdiv y ∧ -(-x).fmod (-y) = x.fmod y := by
  have h1 : (-x).fdiv (-y) = x.fdiv y := Int.neg_fdiv_neg x y
  refine ⟨h1, ?_⟩
  rw [Int.fmod_def, Int.fmod_def, h1, Int.neg_mul]
  omega
end Mine
end
section
open PySem PySem.W PyProof.Rows
set_option maxRecDepth 100000
set_option maxHeartbeats 8000000
namespace Mine
def TurnEnd (h₀ : Heap) (L I : Addr) (it : Obj) (J : (Str → Option Value) → List (Addr × Obj) → Prop) (s₁ s₂ : Shared) : Prop :=
  ∃ h' tk m' news', s₂ = { s₁ with heap := h', toks := tk } ∧ Fr h₀ L h' m' ∧ News h₀ L h' ((I, it) :: news') ∧ (∀ p ∈ news', p.1 ≠ I) ∧ J m' news'
def MTurn (h₀ : Heap) (L I : Addr) (it : Obj) (J : (Str → Option Value) → List (Addr × Obj) → Prop) (s₁ : Shared) (Q : Flow → Shared → Prop) (f : Flow) (s₂ : Shared) : Prop :=
  match f with
  | .ret v => Q (.ret v) s₂
  | .brk => Q .next s₂
  | _ => TurnEnd h₀ L I it J s₁ s₂
theorem TurnEnd.intro {h₀ h' : Heap} {L I : Addr} {it : Obj} {J : (Str → Option Value) → List (Addr × Obj) → Prop} {s₁ : Shared} {tk : Nat} {m' : Str → Option Value} {news' : List (Addr × Obj)}
    (F : Fr h₀ L h' m') (N : News h₀ L h' ((I, it) :: news')) (hne : ∀ p ∈ news', p.1 ≠ I) (hJ : J m' news') : TurnEnd h₀ L I it J s₁ { s₁ with heap := h', toks := tk } := ⟨h', tk, m', news', rfl, F, N, hne, hJ⟩

section
variable {prog : Program} {w : World} {A : Around} {E : Value → Shared → Prop} {s : Shared} {env : Env} {h₀ : Heap} {x : Str} {body : List Stmt} {Q : Flow → Shared → Prop}

theorem iterCore {I : Addr} {fp : List Addr} {n : Nat} {P : Nat → Value → Prop} {St : Nat → Heap → Prop} {m : Str → Option Value} {news rest : List (Addr × Obj)} (IO : Obj → Prop)
    (W : Walks prog w A I fp [I] n P St) (hfp : ∀ b ∈ fp, b = I ∨ h₀.get? b ≠ none ∨ ∃ o, (b, o) ∈ rest)
    (hI1 : I ≠ env.locals) (hI2 : h₀.get? I = none) (hL : env.locals ∉ fp)
    (hIO : ∀ i h, St i h → ∃ o, h.get? I = some o ∧ IO o)
    (F : Fr h₀ env.locals s.heap m) (N : News h₀ env.locals s.heap news) (hne : ∀ p ∈ news, p.1 ≠ I) (hst : St 0 s.heap)
    (J : Nat → (Str → Option Value) → List (Addr × Obj) → Prop) (h0 : J 0 m news) (hJ : ∀ i m' n', J i m' n' → ∀ q ∈ rest, q ∈ n')
    (turn : ∀ i v m₁ news₁ it h tk, i < n → P i v → J i m₁ news₁ → IO it → (∀ p ∈ news₁, p.1 ≠ I) → Fr h₀ env.locals h (fun y => if y = x then some v else m₁ y) → News h₀ env.locals h ((I, it) :: news₁) →
      wpAny (model prog w) A (execs body env) (MTurn h₀ env.locals I it (J (i + 1)) { s with heap := h, toks := tk } Q) E { s with heap := h, toks := tk })
    (done : ∀ h' tk m' news', Fr h₀ env.locals h' m' → News h₀ env.locals h' news' → J n m' news' → Q .next { s with heap := h', toks := tk }) :
    LoopAtV prog w A h₀ env x body Q E (.ref I) s := by
  refine ⟨I, fp, [I], n, P, St, m, news, J, rfl, W, hL, ?_, ?_, hst, F, N, h0, ?_, ?_⟩
  · intro b hb; rw [List.mem_singleton.mp hb]; exact hI2
  · intro p hp hw; exact hne p hp (List.mem_singleton.mp hw)
  · rintro i v m₁ news₁ s₁ own ⟨h, tk, rfl⟩ hi hP hJi hoff hown hget hall hst₁ F₁ N₁
    obtain ⟨it, hit, hio⟩ := hIO _ _ hst₁
    have hIfp : I ∈ fp := W.sub I (by simp)
    have hIown := hall I hIfp hI2 _ hit
    have hoff' : ∀ p ∈ news₁, p.1 ≠ I := fun p hp e => hoff p hp (by rw [e]; simp)
    have N₂ : News h₀ env.locals h ((I, it) :: news₁) := fun p hp => by
      rcases List.mem_cons.mp hp with rfl | hp
      · exact N₁ _ (List.mem_append_left _ hIown)
      · exact N₁ _ (List.mem_append_right _ hp)
    refine wpAny_mono (turn i v m₁ news₁ it h tk hi hP hJi hio hoff' F₁ N₂) (fun f s₂ p => ?_) fun _ _ e => e
    have fin : TurnEnd h₀ env.locals I it (J (i + 1)) { s with heap := h, toks := tk } s₂ → LoopStepU h₀ env.locals [I] own (J (i + 1)) { s with heap := h, toks := tk } .next s₂ := by
      rintro ⟨h', tk', m', news', e, F', N', hn, hj⟩
      refine ⟨rfl, h', tk', m', news', e, F', fun p hp => ?_, fun p hp hw => hn p hp (List.mem_singleton.mp hw), hj⟩
      rcases List.mem_append.mp hp with h1 | h1
      · rcases hfp _ (hown p h1) with h2 | h2 | ⟨o, h2⟩
        · have h3 := hget p h1
          rw [h2] at h3
          have h4 : p = (I, it) := by
            obtain ⟨a, b⟩ := p
            simp only at h2 h3
            subst h2
            exact congrArg _ (Option.some.inj (h3.symm.trans hit))
          rw [h4]; exact N' _ (.head _)
        · exact absurd (N₁ p (List.mem_append_left _ h1)).2.2 h2
        · have h3 := hJ _ _ _ hJi _ h2
          have h4 := (N₁ _ (List.mem_append_right _ h3)).1
          have h5 := hget p h1
          have h6 : p = (p.1, o) := by
            obtain ⟨a, b⟩ := p
            simp only at h4 h5 ⊢
            exact congrArg _ (Option.some.inj (h5.symm.trans h4))
          rw [h6]; exact N' _ (.tail _ (hJ _ _ _ hj _ h2))
      · exact N' p (.tail _ h1)
    cases f with
    | ret v => exact .ret p
    | brk => exact .brk p
    | next => exact .next (fin p)
    | cont => exact .cont (fin p)
  · intro h' tk m' news' F' N' _ hj
    exact done h' tk m' news' F' N' hj

def ListIt (ax : Addr) (o : Obj) : Prop := o.cls = .type "list_iterator" ∧ ∃ k, o.data = .fields #[.ref ax, .int k 0]
def RevIt (ax : Addr) (o : Obj) : Prop := o.cls = .type "list_reverseiterator" ∧ ∃ k, o.data = .fields #[.ref ax, .int k 0]
theorem ListIt.nt {ax : Addr} {o : Obj} (h : ListIt ax o) : NTab o := let ⟨_, hk⟩ := h.2; ntIter hk
theorem RevIt.nt {ax : Addr} {o : Obj} (h : RevIt ax o) : NTab o := let ⟨_, hk⟩ := h.2; ntIter hk

/-- a for over a list that lies on the ledger -/
theorem iterL {ax : Addr} {lo : Obj} {vs : List Value} {ep : Nat} {m : Str → Option Value} {news : List (Addr × Obj)} (J : Nat → (Str → Option Value) → List (Addr × Obj) → Prop)
    (hh : A.handled = none) (F : Fr h₀ env.locals s.heap m) (N : News h₀ env.locals s.heap news) (hm : (ax, lo) ∈ news) (hc : lo.cls = .type "list") (hd : lo.data = .seq vs.toArray ep)
    (h0 : J 0 m news) (hJ : ∀ i m' n', J i m' n' → (ax, lo) ∈ n')
    (turn : ∀ I i v m₁ news₁ it h tk, vs[i]? = some v → J i m₁ news₁ → ListIt ax it → (∀ p ∈ news₁, p.1 ≠ I) → Fr h₀ env.locals h (fun y => if y = x then some v else m₁ y) → News h₀ env.locals h ((I, it) :: news₁) →
      wpAny (model prog w) A (execs body env) (MTurn h₀ env.locals I it (J (i + 1)) { s with heap := h, toks := tk } Q) E { s with heap := h, toks := tk })
    (done : ∀ h' tk m' news', Fr h₀ env.locals h' m' → News h₀ env.locals h' news' → J vs.length m' news' → Q .next { s with heap := h', toks := tk }) :
    wpAny (model prog w) A (pyIter (.ref ax)) (fun it s₂ => LoopAtV prog w A h₀ env x body Q E it s₂) E s := by
  have hax := N _ hm
  have hls : s.heap.IsList ax vs.toArray := ⟨lo, hax.1, hc, ep, hd⟩
  have hlt : ax < s.heap.objs.size := Heap.lt_size hax.1
  refine wpAny_pyIter_list hls ?_
  have W := Walks.list (prog := prog) (w := w) hh s.heap.objs.size ax (Nat.ne_of_lt hlt) vs.toArray
  have hlen : vs.toArray.size = vs.length := by simp
  rw [hlen] at W
  refine iterCore (rest := [(ax, lo)]) (ListIt ax) W ?_ ?_ ?_ ?_ ?_ (F.push _) (fun p hp => ⟨Heap.get?_push_of_some _ (N p hp).1, (N p hp).2⟩) (fun p hp => Nat.ne_of_lt (Heap.lt_size (N p hp).1))
    ⟨⟨_, Heap.get?_push_size _ rfl, rfl, rfl⟩, hls.at fun o e => Heap.get?_push_of_some _ e⟩ J h0 (fun i m' n' hj q hq => by rw [List.mem_singleton.mp hq]; exact hJ i m' n' hj) ?_ ?_
  · intro b hb
    rcases List.mem_cons.mp hb with e | hb
    · exact .inl e
    · exact .inr (.inr ⟨lo, by rw [List.mem_singleton.mp hb]; simp⟩)
  · exact fun e => absurd F.ns.lt (e ▸ Nat.lt_irrefl _)
  · exact next_is_new F
  · intro hb
    rcases List.mem_cons.mp hb with e | hb
    · exact absurd F.ns.lt (e ▸ Nat.lt_irrefl _)
    · exact hax.2.1 (List.mem_singleton.mp hb).symm
  · rintro i h ⟨⟨o, ho, hc', hd'⟩, _⟩
    exact ⟨o, ho, hc', _, hd'⟩
  · intro i v m₁ news₁ it h tk hi hP hj hio hn F₁ N₁
    exact turn _ i v m₁ news₁ it h tk (by simpa using hP) hj hio hn F₁ N₁
  · intro h' tk m' news' F' N' hj
    exact done h' tk m' news' F' N' hj

/-- a for over reversed(list), the iterator made, the list on the ledger -/
theorem iterRev {ax I : Addr} {lo : Obj} {vs : List Value} {ep : Nat} {m : Str → Option Value} {news : List (Addr × Obj)} (J : Nat → (Str → Option Value) → List (Addr × Obj) → Prop)
    (hh : A.handled = none) (F : Fr h₀ env.locals s.heap m) (N : News h₀ env.locals s.heap ((I, revObj ax ((vs.length : Int) - 1)) :: news)) (hne : ∀ p ∈ news, p.1 ≠ I) (hm : (ax, lo) ∈ news) (hc : lo.cls = .type "list") (hd : lo.data = .seq vs.toArray ep)
    (h0 : J 0 m news) (hJ : ∀ i m' n', J i m' n' → (ax, lo) ∈ n')
    (turn : ∀ i v m₁ news₁ it h tk, i < vs.length → vs.reverse[i]? = some v → J i m₁ news₁ → RevIt ax it → (∀ p ∈ news₁, p.1 ≠ I) → Fr h₀ env.locals h (fun y => if y = x then some v else m₁ y) → News h₀ env.locals h ((I, it) :: news₁) →
      wpAny (model prog w) A (execs body env) (MTurn h₀ env.locals I it (J (i + 1)) { s with heap := h, toks := tk } Q) E { s with heap := h, toks := tk })
    (done : ∀ h' tk m' news', Fr h₀ env.locals h' m' → News h₀ env.locals h' news' → J vs.length m' news' → Q .next { s with heap := h', toks := tk }) :
    wpAny (model prog w) A (pyIter (.ref I)) (fun it s₂ => LoopAtV prog w A h₀ env x body Q E it s₂) E s := by
  have hI := N _ (List.mem_cons_self ..)
  have hax := N _ (List.mem_cons_of_mem _ hm)
  have hl : s.heap.IsList ax vs.toArray := ⟨lo, hax.1, hc, ep, hd⟩
  have hit : s.heap.IsRevIter I ax ((vs.length : Int) - 1) := ⟨_, hI.1, rfl, rfl⟩
  refine wpAny_pyIter_revIter hit ?_
  have W := Walks.listRev (prog := prog) (w := w) hh I ax (hne _ hm) vs.toArray
  have hlen : vs.toArray.size = vs.length := by simp
  rw [hlen] at W
  refine iterCore (rest := [(ax, lo)]) (RevIt ax) W ?_ hI.2.1 hI.2.2 ?_ ?_ F (fun p hp => N p (.tail _ hp)) hne ⟨Nat.zero_le _, ?_, hl⟩ J h0 (fun i m' n' hj q hq => by rw [List.mem_singleton.mp hq]; exact hJ i m' n' hj) ?_ ?_
  · intro b hb
    rcases List.mem_cons.mp hb with e | hb
    · exact .inl e
    · exact .inr (.inr ⟨lo, by rw [List.mem_singleton.mp hb]; simp⟩)
  · intro hb
    rcases List.mem_cons.mp hb with e | hb
    · exact hI.2.1 e.symm
    · exact hax.2.1 (List.mem_singleton.mp hb).symm
  · rintro i h ⟨_, ⟨o, ho, hc', hd'⟩, _⟩
    exact ⟨o, ho, hc', _, hd'⟩
  · have e : (vs.length : Int) - 1 - ((0 : Nat) : Int) = (vs.length : Int) - 1 := by omega
    rw [e]; exact hit
  · intro i v m₁ news₁ it h tk hi hP hj hio hn F₁ N₁
    refine turn i v m₁ news₁ it h tk hi ?_ hj hio hn F₁ N₁
    rw [List.getElem?_reverse hi]
    simpa using hP
  · intro h' tk m' news' F' N' hj
    exact done h' tk m' news' F' N' hj
theorem forL {E : Value → Shared → Prop} {Q : Flow → Shared → Prop} {px pos : Pos} {iter : Expr} {m : Str → Option Value} (_F : Fr h₀ env.locals s.heap m) (hx : env.kindOf x = some .local)
    (hp : (env.scope.kind == .class || (env.scope.kind == .module && env.locals != env.globals)) = false)
    (h : wpAny (model prog w) A (eval iter env) (fun xv s₁ => wpAny (model prog w) A (pyIter xv) (fun it s₂ => LoopAtV prog w A h₀ env x body Q E it s₂) E s₁) E s)
    (hs : ∀ x, foldedSetIterable iter env x = pure x := by intro _; rfl)
    (hE : PassesOwn (model prog w) A env E := by passes_own) :
    wpAny (model prog w) A (exec (.For (.Name x px) iter body [] pos) env) Q E s := For_invV h₀ hx hp h hs hE
end
end Mine
end
section
open PySem PySem.W PyProof.Rows
set_option maxRecDepth 100000
set_option maxHeartbeats 8000000
namespace Mine
section
variable {prog : Program} {w : World} {A : Around} {E : Value → Shared → Prop} {s : Shared} {h₀ : Heap} {L D : Addr} {m : Str → Option Value} {news news' : List (Addr × Obj)}
theorem appendV {vs : List Value} {n : Nat} {x : Value} {Q : Value → Shared → Prop} (F : Fr h₀ L s.heap m) (N : News h₀ L s.heap news) (U : Upd D (W.listOf vs.toArray n) (W.listOf (vs ++ [x]).toArray (n + 1)) news news') (hz : vs.length ≤ 1000000)
    (h : ∀ h', Fr h₀ L h' m → News h₀ L h' news' → Q .none { s with heap := h' }) : wpAny (model prog w) A (call (.builtin "list.append") [.ref D, x]) Q E s := by
  have e : vs.toArray.push x = (vs ++ [x]).toArray := by simp
  rw [← e] at U
  exact append_K F N U h (by rw [List.size_toArray, sizeLine_eq]; omega)
theorem reverseV {vs : List Value} {n : Nat} {Q : Value → Shared → Prop} (F : Fr h₀ L s.heap m) (N : News h₀ L s.heap news) (U : Upd D (W.listOf vs.toArray n) (W.listOf vs.reverse.toArray n) news news') (hz : vs.length ≤ 1000000)
    (h : ∀ h', Fr h₀ L h' m → News h₀ L h' news' → Q .none { s with heap := h' }) : wpAny (model prog w) A (call (.builtin "list.reverse") [.ref D]) Q E s :=
  kl_reverse F N (by simp) U (by rw [sizeLine_eq]; simp; omega) h
end
section
variable {h h' : Heap} {L : Addr} {l l' : List (Addr × Obj)} {p : Addr × Obj}
theorem propN {p : Prop} (h : p) : p := h
theorem roomN {a : Nat} (h : a < recursionLimit) : a < recursionLimit := h
theorem unitN {a : Nat} (h : a < cLine) : a < cLine := h
theorem preN (h : PreOk l) : PreOk l := h
theorem memN (h : p ∈ l) : p ∈ l := h
theorem updN {D : Addr} {o o' : Obj} (h : Upd D o o' l l') : Upd D o o' l l' := h
theorem nwN (x : News h L h' l) : News h L h' l := x
theorem ltA {α : Type} [LT α] {a b : α} (h : a < b) : a < b := h
theorem leA {α : Type} [LE α] {a b : α} (h : a ≤ b) : a ≤ b := h
theorem neA {α : Type} {a b : α} (h : a ≠ b) : a ≠ b := h
theorem eqA {α : Type} {a b : α} (h : a = b) : a = b := h
end
end Mine
end
section
open PySem PySem.W PyProof.Rows PySem.Calls
set_option maxRecDepth 100000
set_option maxHeartbeats 8000000
namespace Mine
namespace F
theorem owner_si : Manifest.owners.lookup (String.ofList ['r', 'o', 't', 'a', 'r', 'e', 't', 'i', '_', 't', 'e', 's'].reverse) = some Manifest.sig_set_iterator := by kernel_rfl
theorem slot_si_next : Slot "set_iterator" "__next__" "set_iterator.__next__" :=
  .of (owner := "set_iterator") (n := "__next__") (by rw [typeLookup_type, builtinLookup_eq_fast]; kernel_rfl) (by decide +kernel) (by decide +kernel) (by decide +kernel)
    (by first | exact .inl (by decide +kernel) | exact .inr (by decide +kernel)) (by rw [isSubtype_type]; kernel_rfl)
theorem entry_si_next : entryFor table "set_iterator.__next__" = some Builtin.«set_iterator.__next__» := entryFor_of_tree (by kernel_rfl)
theorem args_si_next (a : Value) : argsOk "set_iterator.__next__" ⟨[a], []⟩ := by
  unfold argsOk; rw [signature?_of (id := "set_iterator.__next__") (n := ['_', '_', 't', 'x', 'e', 'n', '_', '_']) (o := ['r', 'o', 't', 'a', 'r', 'e', 't', 'i', '_', 't', 'e', 's']) (by kernel_rfl) owner_si]; kernel_rfl
theorem slot_si_iter : Slot "set_iterator" "__iter__" "set_iterator.__iter__" :=
  .of (owner := "set_iterator") (n := "__iter__") (by rw [typeLookup_type, builtinLookup_eq_fast]; kernel_rfl) (by decide +kernel) (by decide +kernel) (by decide +kernel)
    (by first | exact .inl (by decide +kernel) | exact .inr (by decide +kernel)) (by rw [isSubtype_type]; kernel_rfl)
theorem args_si_iter (a : Value) : argsOk "set_iterator.__iter__" ⟨[a], []⟩ := by
  unfold argsOk; rw [signature?_of (id := "set_iterator.__iter__") (n := ['_', '_', 'r', 'e', 't', 'i', '_', '_']) (o := ['r', 'o', 't', 'a', 'r', 'e', 't', 'i', '_', 't', 'e', 's']) (by kernel_rfl) owner_si]; kernel_rfl
theorem entry_si_iter : entryFor table "set_iterator.__iter__" = some Builtin.«dict_keyiterator.__iter__» :=
  entryFor_alias (id' := "dict_keyiterator.__iter__") (by kernel_rfl) (by first | rfl | decide +kernel | (unfold String.splitOn; simp +decide [String.splitOnAux])) (by decide +kernel) (by kernel_rfl)
theorem entry_set_iter : entryFor table "set.__iter__" = some Builtin.«frozenset.__iter__» :=
  entryFor_alias (id' := "frozenset.__iter__") (by kernel_rfl) (by first | rfl | decide +kernel | (unfold String.splitOn; simp +decide [String.splitOnAux])) (by decide +kernel) (by kernel_rfl)
end F

end Mine
end
section
open PySem PySem.W PyProof.Rows
set_option maxRecDepth 100000
set_option maxHeartbeats 8000000
namespace Mine
/-- the table of a set of one element that was added to a fresh one -/
def oneTab (led plain : Bool) (h : Int) : SetTable := { mask := 7, place := #[SetTable.bits h % 8], dummies := #[], finger := 0, led, moves := 0, plain }
theorem layNew_fresh (led : Bool) (h : Int) (x : Value) : layNew (.fresh 0 0 led) #[] h x = (#[(h, x)], oneTab led true h, false, false) := by
  rfl
theorem below_one (j : Nat) : SetTable.below #[j] 0 = 0 := by
  unfold SetTable.below
  simp [SetTable.below.go]
theorem below_past (j : Nat) : SetTable.below #[j] (j + 1) = 1 := by
  unfold SetTable.below
  simp [SetTable.below.go]
theorem pick_one (next : Nat → Nat) (e : Int × Value) : pickOrder next #[e] = #[e] := by
  unfold pickOrder
  simp [pickOrder.go, Nat.mod_one]
abbrev ledOf (w : World) : Bool := !(w.params.followText "set-order")
abbrev set0 (led : Bool) : Obj := { cls := .type "set", dict := none, data := .set #[] 0 (.fresh 0 0 led) }
abbrev set1 (led : Bool) (h : Int) (v : Value) : Obj := { cls := .type "set", dict := none, data := .set #[(h, v)] 1 (oneTab led false h) }
section
variable {prog : Program} {w : World} {A : Around} {E : Value → Shared → Prop} {s : Shared}

theorem setAdd_one {a : Addr} {x : Str} {t : Tok} {led : Bool} {Q : Bool → Shared → Prop} (ho : s.heap.get? a = some (set0 led))
    (h : ∀ h', Heap.SameBut a s.heap h' → h'.get? a = some (set1 led ((PySem.strKind prog w).hash x) (.str x t)) → Q true { s with heap := h', toks := s.toks + 1 }) :
    wpAny (model prog w) A (setAdd a (.str x t)) Q E s := by
  unfold setAdd
  refine wpAny_holding ?_
  refine wpAny_bind ((PySem.strKind prog w).pyHash (k := x) (strKind_is _ _ _ _) ?_)
  unfold setAddHashed setAddHashedIn
  have ho' : Heap.get? { s with toks := s.toks + 1 }.heap a = some (set0 led) := ho
  have hel : ElemsOf (PySem.strKind prog w) (#[] : Array (Int × Value)).toList := fun e he => by simp at he
  refine wpAny_holding (wpAny_bind (wpAny_setState_of ho' rfl rfl ?_))
  dsimp only
  rw [byScan_of (knd := PySem.strKind prog w) rfl (by show 0 < 4096; omega) hel]
  simp only [↓reduceIte]
  unfold setAddByScan
  refine wpAny_bind ?_
  refine wpAny_bind (wpAny_rule ?_)
  refine wpAny_bind (wpAny_setScan_of (knd := PySem.strKind prog w) (k := x) (strKind_is _ _ _ _) ho' rfl rfl hel ?_)
  rw [show List.findIdx? (fun e => (PySem.strKind prog w).is x e.2) (#[] : Array (Int × Value)).toList = none from rfl]
  dsimp only
  rw [layNew_fresh]
  dsimp only
  refine wpAny_bind (wpAny_pure ?_)
  rw [show (oneTab led true ((PySem.strKind prog w).hash x)).plain = true from rfl]
  simp only [↓reduceIte]
  rw [show hashByValue 8 (.str x t) = pure false from rfl]
  refine wpAny_bind (wpAny_pure ?_)
  simp only [Bool.false_eq_true, ↓reduceIte]
  refine wpAny_bind (wpAny_storeSet_of ho' rfl ?_ (by show 1 ≤ sizeLine; rw [sizeLine_eq]; omega))
  rw [show (!false && ({ (oneTab led true ((PySem.strKind prog w).hash x)) with plain := false } : SetTable).tooFull) = false from rfl]
  simp only [Bool.false_eq_true, ↓reduceIte]
  refine wpAny_pure (wpAny_pure ?_)
  exact h _ (Heap.SameBut.update ..) (Heap.get?_update_self _ ho' rfl)

theorem setLoop_one {I S l : Addr} {x : Str} {t : Tok} {led : Bool} {R : Result → Shared → Prop} (hh : A.handled = none) (hI : s.heap.IsListIter I l 0) (hl : s.heap.IsList l #[.str x t]) (hS : s.heap.get? S = some (set0 led)) (h1 : l ≠ I) (h2 : S ≠ I) (h3 : S ≠ l)
    (hR : ∀ h' tk, h'.get? S = some (set1 led ((PySem.strKind prog w).hash x) (.str x t)) → (∀ b o, b ≠ S → b ≠ I → s.heap.get? b = some o → h'.get? b = some o) → R (.ok (.ret .none)) { s with heap := h', toks := tk }) :
    codeAny (model prog w) A (.builtin "set.update.loop" ⟨[.ref S, .ref I], []⟩) R s := by
  have W := Walks.list (prog := prog) (w := w) (A := A.in1) hh I l h1 #[.str x t]
  refine codeAny_builtin PyProof.Rows.F.entry_set_update_loop ?_
  rw [Around.under_plainId PyProof.Rows.F.plain_set_update_loop _]
  show wpAny _ A.in1 (pyNext (.ref I) >>= _) _ _ s
  refine wpAny_bind (W.item 0 s _ _ (by show 0 < 1; omega) ⟨hI, hl⟩ fun v h₁ tk₁ hv st₁ k₁ => ?_)
  have hv' : v = .str x t := by simpa using hv.symm
  subst hv'
  show wpAny _ A.in1 (holding [Value.str x t] (setAdd S (.str x t)) >>= _) _ _ _
  have hS₁ := k₁ S _ (by simpa using h2) hS
  refine wpAny_bind (wpAny_holding (setAdd_one (led := led) hS₁ fun h₂ sb₂ hS₂ => ?_))
  refine wpAny_pure ⟨plainId_quiet PyProof.Rows.F.plain_set_update_loop _, ?_⟩
  refine codeAny_builtin PyProof.Rows.F.entry_set_update_loop ?_
  rw [Around.under_plainId PyProof.Rows.F.plain_set_update_loop _]
  show wpAny _ A.in1 (pyNext (.ref I) >>= _) _ _ _
  refine wpAny_bind (W.done _ _ _ (W.frame _ _ _ st₁ fun b hb o e => ?_) fun h₃ tk₃ k₃ => ?_)
  · refine (sb₂.2 b fun e2 => ?_).trans e
    simp only [List.mem_cons, List.not_mem_nil, or_false] at hb
    rcases hb with hb | hb
    · exact h2 (e2.symm.trans hb)
    · exact h3 (e2.symm.trans hb)
  · show wpAny _ A.in1 (ret Value.none) _ _ _
    refine wpAny_pure (hR h₃ tk₃ (k₃ _ _ (by simpa using h2) hS₂) fun b o b1 b2 e => ?_)
    exact k₃ b o (by simpa using b2) ((sb₂.2 b b1).trans (k₁ b o (by simpa using b2) e))

theorem code_set_new_x (a : Value) {Q₁ : Value → Shared → Prop}
    (h : Q₁ (.ref s.heap.objs.size) { s with heap := s.heap.push (set0 (ledOf w)) }) :
    codeAny (model prog w) A (.call (.builtin "set.__new__") ⟨[.type "set", a], []⟩) (wants Q₁ E) s := by
  refine codeAny_of_tree ?_
  show wpAny _ A.in1 (do checkBuiltinCall "set.__new__" ⟨[.type "set", a], []⟩; again (.builtin "set.__new__" ⟨[.type "set", a], []⟩)) _ _ s
  refine wpAny_bind (wpAny_of_eq (PySem.F.newCall_set_1 a) (wpAny_pure ⟨plainId_quiet PySem.F.plain_set_new _, codeAny_builtin PySem.F.entry_set_new ?_⟩))
  rw [Around.under_plainId PySem.F.plain_set_new _]
  unfold Builtin.«set.__new__» Builtin.Frozenset.newClass
  have hsub := PySem.sub_set_self
  obtain ⟨hp, g, d, tk, os⟩ := s
  dsimp only
  wp_walk
  refine wpAny_askSetting (wpAny_pure ?_)
  dsimp only
  simp only [newObj]
  refine wpAny_bind (wpAny_alloc (wpAny_pure ?_))
  exact wpAny_pure h

theorem call_set_str {l : Addr} {x : Str} {t : Tok} {Q : Value → Shared → Prop}
    (hh : A.handled = none) (hl : s.heap.IsList l #[.str x t])
    (h : ∀ (h' : Heap) (tk : Nat), h'.get? s.heap.objs.size = some (set1 (ledOf w) ((PySem.strKind prog w).hash x) (.str x t)) → (∀ b o, s.heap.get? b = some o → h'.get? b = some o) → Q (.ref s.heap.objs.size) { s with heap := h', toks := tk }) :
    wpAny (model prog w) A (call (.type "set") [.ref l]) Q E s := by
  obtain ⟨c, tl, hmro⟩ := PySem.F.called_set.mro
  have hmade := PySem.F.called_set.made
  have hsub := PySem.F.called_set.sub
  refine wpAny_call (codeAny_of_tree ?_)
  show wpAny _ _ (callAny (.type "set") _) _ _ _
  refine wpAny_pure ⟨Code.quiet_builtin _ (by decide +kernel), codeAny_builtin PySem.F.entry_type_call ?_⟩
  rw [Around.under_plain (weight_type_call_type "set" [.ref l] []) rfl]
  have g1 := PySem.F.called_set.notType
  have g2 := PySem.F.called_set.canCreate
  have g3 := PySem.F.typeCall_set_1 (.ref l)
  repeat (any_goals (first | assumption | wp_step))
  let P₀ : Value → Shared → Prop := fun obj s₁ => obj = .ref s.heap.objs.size ∧ s₁ = { s with heap := s.heap.push (set0 (ledOf w)) }
  let P₁ : Value → Shared → Prop := fun r s₂ => r = .none ∧ ∃ h' tk, s₂ = { s with heap := h', toks := tk } ∧ h'.get? s.heap.objs.size = some (set1 (ledOf w) ((PySem.strKind prog w).hash x) (.str x t)) ∧ (∀ b o, s.heap.get? b = some o → h'.get? b = some o)
  refine codeAny_mono (code_set_new_x (.ref l) (E := E) (Q₁ := P₀) ⟨rfl, rfl⟩) fun r s₁ hr => ?_
  cases r with
  | error e => exact hr
  | ok fl =>
    cases fl with
    | ret obj =>
      obtain ⟨rfl, rfl⟩ := hr
      have hS : (s.heap.push (set0 (ledOf w))).get? s.heap.objs.size = some (set0 (ledOf w)) := Heap.get?_push_size _ rfl
      have hT : Shared.TypeIs { s with heap := s.heap.push (set0 (ledOf w)) } (.ref s.heap.objs.size) "set" := ⟨_, hS, rfl⟩
      have g4 := PySem.F.called_set.init.lookup
      have g5 := PySem.F.called_set.init.bind (.ref s.heap.objs.size)
      repeat (any_goals (first | assumption | wp_step))
      refine codeAny_mono (codeAny_call_builtin (R := wants P₁ E) PySem.F.called_set.init.plain PySem.F.entry_set_init (check_set_init_1 hT ?_)) fun r₂ s₂ hr₂ => ?_
      · obtain ⟨⟨ocls, odict, odata, oslots⟩, hol, hcl, nl, hdl⟩ := hl
        simp only at hcl hdl
        subst hcl; subst hdl
        have hol' : (s.heap.push (set0 (ledOf w))).get? l = some { cls := .type "list", dict := odict, data := .seq #[.str x t] nl, slots := oslots } := Heap.get?_push_of_some _ hol
        have g6 := PySem.F.sub_list_set
        have g7 := PySem.F.sub_list_frozenset
        have g8 : (Value.type "list" == Value.type "dict") = false := by decide
        have hl1 : (s.heap.push (set0 (ledOf w))).IsList l #[.str x t] := ⟨_, hol', rfl, nl, rfl⟩
        have hlS : l < s.heap.objs.size := Heap.lt_size hol
        unfold Builtin.«set.__init__» noKeywords Builtin.Frozenset.updateFrom
        generalize hPI : pyIter = PI
        wp_walk
        subst hPI
        refine wpAny_pyIter_list hl1 ?_
        refine wpAny_bind (wpAny_runValue ?_)
        have hsz : (s.heap.push (set0 (ledOf w))).objs.size = s.heap.objs.size + 1 := Heap.size_push _ _
        refine setLoop_one (l := l) (x := x) (t := t) (led := ledOf w) (by simp [hh]) ⟨_, Heap.get?_push_size _ rfl, rfl, rfl⟩ (hl1.push _) (Heap.get?_push_of_some _ hS) (by rw [hsz]; exact Nat.ne_of_lt (Nat.lt_succ_of_lt hlS)) (by rw [hsz]; exact Nat.ne_of_lt (Nat.lt_succ_self _)) (Nat.ne_of_gt hlS) fun h' tk hS' hk => ?_
        refine wpAny_pure ?_
        show wpAny _ _ (ret Value.none) _ _ _
        refine wpAny_pure ⟨rfl, h', tk, rfl, hS', fun b o e => ?_⟩
        have hb := Heap.lt_size e
        exact hk b o (Nat.ne_of_lt hb) (by rw [hsz]; exact Nat.ne_of_lt (Nat.lt_succ_of_lt hb)) (Heap.get?_push_of_some _ (Heap.get?_push_of_some _ e))
      · cases r₂ with
        | error e => exact hr₂
        | ok fl₂ =>
          cases fl₂ with
          | ret r =>
            obtain ⟨rfl, h', tk, rfl, hS', hk'⟩ := hr₂
            repeat (any_goals (first | assumption | wp_step))
            exact h _ _ hS' hk'
          | _ => exact hr₂.elim
    | _ => exact hr.elim
end
end Mine
end
section
open PySem PySem.W PyProof.Rows PySem.Calls
set_option maxRecDepth 100000
set_option maxHeartbeats 8000000
namespace Mine
abbrev setIt (S : Addr) (a i n ep : Int) : Obj := { cls := .type "set_iterator", data := .fields #[rawInt a, rawInt i, .ref S, rawInt n, rawInt ep] }
section
variable {prog : Program} {w : World} {A : Around} {E : Value → Shared → Prop} {s : Shared}
theorem andOff {α : Type} {M : Model} {b d : Bool} {x y : Sem α} {Q : α → Shared → Prop} (hd : d = false) (h : wpAny M A y Q E s) : wpAny M A (if (b && d) = true then x else y) Q E s := by
  subst hd
  rw [Bool.and_false, if_neg (by decide)]
  exact h
theorem andOffU {α : Type} {M : Model} {d : Bool} {x y : Sem α} {Q : α → Shared → Prop} (hd : d = false) (h : wpAny M A y Q E s) : wpAny M A (if d = true then x else y) Q E s := by
  subst hd
  rw [if_neg (by decide)]
  exact h
theorem pyIter_set1 {S : Addr} {led : Bool} {h : Int} {v : Value} {Q : Value → Shared → Prop} (ho : s.heap.get? S = some (set1 led h v))
    (hQ : Q (.ref s.heap.objs.size) { s with heap := s.heap.push (setIt S 0 0 1 1) }) : wpAny (model prog w) A (pyIter (.ref S)) Q E s := by
  refine wpAny_pyIter_slot ⟨_, ho, rfl⟩ PySem.F.slot_set_iter (wpAny_call_entry PySem.F.slot_set_iter ⟨_, ho, rfl⟩ F.entry_set_iter ?_ (PySem.F.args_set_iter_1 _))
  unfold Builtin.«frozenset.__iter__»
  refine wpAny_bind (wpAny_of_eq (a := S) rfl ?_)
  unfold Builtin.Frozenset.sizeOf setEntries setDrawn setsByText setEpoch
  refine wpAny_bind (wpAny_bind (wpAny_bind (wpAny_setState_of ho rfl rfl (wpAny_pure (wpAny_pure ?_)))))
  refine wpAny_bind (wpAny_bind (wpAny_setState_of ho rfl rfl ?_))
  refine wpAny_bind (wpAny_bind (wpAny_askSetting (wpAny_pure ?_)))
  refine wpAny_pure ?_
  dsimp only
  refine andOff rfl ?_
  refine wpAny_bind (wpAny_pure ?_)
  refine wpAny_bind (wpAny_bind (wpAny_setState_of ho rfl rfl (wpAny_pure ?_)))
  refine wpAny_bind (wpAny_newObj_type (wpAny_pure ?_))
  exact ⟨_, rfl, "set_iterator", _, ⟨_, Heap.get?_push_size _ rfl, rfl⟩, F.slot_si_next.lookup, hQ⟩
theorem pyIter_set0 {S : Addr} {led : Bool} {Q : Value → Shared → Prop} (ho : s.heap.get? S = some (set0 led))
    (hQ : Q (.ref s.heap.objs.size) { s with heap := s.heap.push (setIt S 0 0 0 0) }) : wpAny (model prog w) A (pyIter (.ref S)) Q E s := by
  refine wpAny_pyIter_slot ⟨_, ho, rfl⟩ PySem.F.slot_set_iter (wpAny_call_entry PySem.F.slot_set_iter ⟨_, ho, rfl⟩ F.entry_set_iter ?_ (PySem.F.args_set_iter_1 _))
  unfold Builtin.«frozenset.__iter__»
  refine wpAny_bind (wpAny_of_eq (a := S) rfl ?_)
  unfold Builtin.Frozenset.sizeOf setEntries setDrawn setsByText setEpoch
  refine wpAny_bind (wpAny_bind (wpAny_bind (wpAny_setState_of ho rfl rfl (wpAny_pure (wpAny_pure ?_)))))
  refine wpAny_bind (wpAny_bind (wpAny_setState_of ho rfl rfl ?_))
  refine wpAny_bind (wpAny_bind (wpAny_askSetting (wpAny_pure ?_)))
  refine wpAny_pure ?_
  dsimp only
  refine andOff rfl ?_
  refine wpAny_bind (wpAny_pure ?_)
  refine wpAny_bind (wpAny_bind (wpAny_setState_of ho rfl rfl (wpAny_pure ?_)))
  refine wpAny_bind (wpAny_newObj_type (wpAny_pure ?_))
  exact ⟨_, rfl, "set_iterator", _, ⟨_, Heap.get?_push_size _ rfl, rfl⟩, F.slot_si_next.lookup, hQ⟩

/-- the place after the one element -/
def nextPlace (w : World) (h : Int) : Int := if w.params.followText "set-order" = true then 0 else ((SetTable.bits h % 8 + 1 : Nat) : Int)
theorem setNext_one {S : Addr} {h : Int} {v : Value} {Q : Option (Value × Nat) → Shared → Prop} (ho : s.heap.get? S = some (set1 (ledOf w) h v)) (hQ : Q (some (v, (nextPlace w h).toNat)) s) :
    wpAny (model prog w) A (setNext S 0 0 1) Q E s := by
  unfold setNext setsByText
  refine wpAny_bind (wpAny_setState_of ho rfl rfl ?_)
  refine wpAny_bind (wpAny_bind (wpAny_askSetting (wpAny_pure ?_)))
  show wpAny _ _ (if w.params.followText "set-order" = true then _ else _) _ _ _
  unfold nextPlace at hQ
  cases hb : w.params.followText "set-order" with
  | true =>
    rw [if_pos rfl]
    dsimp only
    rw [if_neg (by decide)]
    unfold setWalk setsByText
    refine wpAny_bind (wpAny_bind (wpAny_setState_of ho rfl rfl ?_))
    refine wpAny_bind (wpAny_bind (wpAny_askSetting (wpAny_pure ?_)))
    show wpAny _ _ (if w.params.followText "set-order" = true then _ else _) _ _ _
    rw [if_pos hb]
    refine wpAny_bind (wpAny_askSetting (wpAny_pure (wpAny_pure ?_)))
    rw [pick_one]
    rw [hb] at hQ
    exact hQ
  | false =>
    rw [if_neg (by decide)]
    dsimp only
    refine andOffU rfl ?_
    have hl : ledOf w = true := by simp [ledOf, hb]
    rw [hl]
    refine wpAny_bind (wpAny_of_eq (a := ()) rfl (wpAny_pure ?_))
    rw [hb] at hQ
    rw [show (oneTab true false h).place = #[SetTable.bits h % 8] from rfl, below_one]
    exact hQ
theorem setNext_end {S : Addr} {h : Int} {v : Value} {Q : Option (Value × Nat) → Shared → Prop} (ho : s.heap.get? S = some (set1 (ledOf w) h v)) (hQ : Q none s) :
    wpAny (model prog w) A (setNext S (nextPlace w h).toNat 1 1) Q E s := by
  unfold setNext setsByText nextPlace
  refine wpAny_bind (wpAny_setState_of ho rfl rfl ?_)
  refine wpAny_bind (wpAny_bind (wpAny_askSetting (wpAny_pure ?_)))
  show wpAny _ _ (if w.params.followText "set-order" = true then _ else _) _ _ _
  cases hb : w.params.followText "set-order" with
  | true =>
    rw [if_pos rfl]
    dsimp only
    rw [if_neg (by decide)]
    unfold setWalk setsByText
    refine wpAny_bind (wpAny_bind (wpAny_setState_of ho rfl rfl ?_))
    refine wpAny_bind (wpAny_bind (wpAny_askSetting (wpAny_pure ?_)))
    show wpAny _ _ (if w.params.followText "set-order" = true then _ else _) _ _ _
    rw [if_pos hb]
    refine wpAny_bind (wpAny_askSetting (wpAny_pure (wpAny_pure ?_)))
    rw [pick_one]
    exact hQ
  | false =>
    rw [if_neg (by decide)]
    dsimp only
    refine andOffU rfl ?_
    have hl : ledOf w = true := by simp [ledOf, hb]
    rw [hl]
    refine wpAny_bind (wpAny_of_eq (a := ()) rfl (wpAny_pure ?_))
    rw [show (oneTab true false h).place = #[SetTable.bits h % 8] from rfl, show ((if false = true then (0 : Int) else ((SetTable.bits h % 8 + 1 : Nat) : Int))).toNat = SetTable.bits h % 8 + 1 from Int.toNat_natCast _, below_past]
    exact hQ
theorem setNext_none {S : Addr} {led : Bool} {Q : Option (Value × Nat) → Shared → Prop} (ho : s.heap.get? S = some (set0 led)) (hQ : Q none s) :
    wpAny (model prog w) A (setNext S 0 0 0) Q E s := by
  unfold setNext setsByText
  refine wpAny_bind (wpAny_setState_of ho rfl rfl ?_)
  refine wpAny_bind (wpAny_bind (wpAny_askSetting (wpAny_pure ?_)))
  show wpAny _ _ (if w.params.followText "set-order" = true then _ else _) _ _ _
  cases hb : w.params.followText "set-order" with
  | true =>
    rw [if_pos rfl]
    dsimp only
    rw [if_neg (by decide)]
    unfold setWalk setsByText
    refine wpAny_bind (wpAny_bind (wpAny_setState_of ho rfl rfl ?_))
    refine wpAny_bind (wpAny_bind (wpAny_askSetting (wpAny_pure ?_)))
    show wpAny _ _ (if w.params.followText "set-order" = true then _ else _) _ _ _
    rw [if_pos hb]
    exact wpAny_bind (wpAny_askSetting (wpAny_pure (wpAny_pure hQ)))
  | false =>
    rw [if_neg (by decide)]
    dsimp only
    refine andOffU rfl ?_
    exact wpAny_bind (wpAny_of_eq (a := ()) (by cases led <;> rfl) (wpAny_pure hQ))

theorem entriesAt {a : Addr} {o : Obj} {es : Array (Int × Value)} {ep : Nat} {t : SetTable} {Q : Array (Int × Value) → Shared → Prop}
    (ho : s.heap.get? a = some o) (hd : o.data = .set es ep t) (hf : t.fits es.size = true) (h : Q es s) : wpAny (model prog w) A (setEntries a) Q E s := by
  unfold setEntries
  exact wpAny_bind (wpAny_setState_of ho hd hf (wpAny_pure h))
theorem nextPlace_cast (w : World) (h : Int) : ((nextPlace w h).toNat : Int) = nextPlace w h := by
  unfold nextPlace
  split
  · rfl
  · rw [Int.toNat_natCast]
/-- the two states of the iterator over a set of one, the one of a set of none -/
def SetItAt (w : World) (H : Heap) (I S : Addr) (h : Int) : Nat → Prop
  | 0 => H.get? I = some (setIt S 0 0 1 1)
  | _ => H.get? I = some (setIt S (nextPlace w h) 1 1 1)
theorem next_one {I S : Addr} {h : Int} {v : Value} {Q : Option Value → Shared → Prop} (hI : s.heap.get? I = some (setIt S 0 0 1 1)) (ho : s.heap.get? S = some (set1 (ledOf w) h v))
    (hQ : ∀ h', h'.get? I = some (setIt S (nextPlace w h) 1 1 1) → (∀ b o, b ≠ I → s.heap.get? b = some o → h'.get? b = some o) → Q (some v) { s with heap := h' }) : wpAny (model prog w) A (pyNext (.ref I)) Q E s := by
  have hT : s.TypeIs (.ref I) "set_iterator" := ⟨_, hI, rfl⟩
  unfold pyNext
  refine wpAny_bind (wpAny_attempt (wpAny_callSpecial?_slot (name := Str.ofString "__next__") hT F.slot_si_next
    (wpAny_call_entry F.slot_si_next hT F.entry_si_next ?_ (F.args_si_next _))))
  unfold Builtin.«set_iterator.__next__»
  refine wpAny_bind (wpAny_of_eq (a := (Value.ref I, [])) rfl ?_)
  dsimp only
  refine wpAny_bind (wpAny_fieldsOf hI rfl ?_)
  dsimp only
  show wpAny _ _ (setEntries S >>= _) _ _ _
  refine wpAny_bind (entriesAt ho rfl rfl ?_)
  refine andOffU rfl ?_
  show wpAny _ _ (setNext S 0 0 1 >>= _) _ _ _
  refine wpAny_bind (setNext_one ho ?_)
  dsimp only
  refine wpAny_bind (wpAny_setField hI rfl (by show 0 < 5; omega) ?_)
  have hI2 : (s.heap.update I (Obj.mapFields (·.setIfInBounds 0 (rawInt ((nextPlace w h).toNat : Int))))).get? I = some (setIt S (nextPlace w h) 0 1 1) := by
    rw [Heap.get?_update_self _ hI rfl, nextPlace_cast]
    rfl
  refine wpAny_bind (wpAny_setField hI2 rfl (by show 1 < 5; omega) ?_)
  refine wpAny_pure ?_
  refine ⟨v, rfl, ?_⟩
  refine wpAny_pure (hQ _ ?_ ?_)
  · rw [Heap.get?_update_self _ hI2 rfl]
    rfl
  · intro b o hb e
    rw [Heap.get?_update_ne _ _ _ _ hb, Heap.get?_update_ne _ _ _ _ hb]
    exact e

theorem next_end {I S : Addr} {a i n : Int} {es : Array (Int × Value)} {T : SetTable} {ep : Nat} {Q : Option Value → Shared → Prop} (hh : A.handled = none) (hI : s.heap.get? I = some (setIt S a i n ep))
    (ho : s.heap.get? S = some { cls := .type "set", dict := none, data := .set es ep T }) (hf : T.fits es.size = true) (hn : ((es.size : Int) != n) = false)
    (hnx : ∀ (A' : Around) (Q' : Option (Value × Nat) → Shared → Prop) (E' : Value → Shared → Prop), Q' none s → wpAny (model prog w) A' (setNext S a.toNat i.toNat (ep : Int).toNat) Q' E' s)
    (hQ : ∀ h', (∀ b o, b ≠ I → s.heap.get? b = some o → h'.get? b = some o) → Q none { s with heap := h' }) : wpAny (model prog w) A (pyNext (.ref I)) Q E s := by
  have hT : s.TypeIs (.ref I) "set_iterator" := ⟨_, hI, rfl⟩
  unfold pyNext
  refine wpAny_bind (wpAny_attempt (wpAny_callSpecial?_slot (name := Str.ofString "__next__") hT F.slot_si_next
    (wpAny_call_entry F.slot_si_next hT F.entry_si_next ?_ (F.args_si_next _))))
  unfold Builtin.«set_iterator.__next__»
  refine wpAny_bind (wpAny_of_eq (a := (Value.ref I, [])) rfl ?_)
  dsimp only
  refine wpAny_bind (wpAny_fieldsOf hI rfl ?_)
  dsimp only
  show wpAny _ _ (setEntries S >>= _) _ _ _
  refine wpAny_bind (entriesAt ho rfl hf ?_)
  refine andOffU hn ?_
  show wpAny _ _ (setNext S a.toNat i.toNat (ep : Int).toNat >>= _) _ _ _
  refine wpAny_bind (hnx _ _ _ ?_)
  dsimp only
  refine wpAny_bind (wpAny_setField hI rfl (by show 2 < 5; omega) ?_)
  show wpAny _ _ (newExc (.type "StopIteration") [] >>= _) _ _ _
  refine wpAny_bind ?_
  simp only [newExc, newTuple]
  refine wpAny_bind (wpAny_newObj_type ?_ (by size_fits))
  refine wpAny_bind (m := firstArgMember _ _) (wpAny_of_eq (a := Value.none) (by first | rfl | (simp only [firstArgMember]; rfl)) ?_)
  refine wpAny_newObj_type ?_ (by size_fits)
  simp only [raiseNew]
  refine wpAny_bind (wpAny_handled ?_)
  first | rw [show A.in1.handled = none from hh] | rw [hh]
  refine wpAny_bind (wpAny_pure (wpAny_throw ?_))
  refine wpAny_bind (wpAny_isInstance (T := "StopIteration") (b := true) ⟨_, Heap.get?_push_size _ rfl, rfl⟩ isSubtype_stop ?_)
  refine wpAny_pure (hQ _ fun b o hb e => ?_)
  exact Heap.get?_push_of_some _ (Heap.get?_push_of_some _ ((Heap.get?_update_ne _ _ _ _ hb).trans e))
theorem si_self {I S : Addr} {a i n ep : Int} {Q : Value → Shared → Prop} (hI : s.heap.get? I = some (setIt S a i n ep)) (h : Q (.ref I) s) : wpAny (model prog w) A (pyIter (.ref I)) Q E s := by
  have hT : s.TypeIs (.ref I) "set_iterator" := ⟨_, hI, rfl⟩
  refine wpAny_pyIter_slot hT F.slot_si_iter (wpAny_call_entry F.slot_si_iter hT F.entry_si_iter ?_ (F.args_si_iter _))
  show wpAny _ _ (ret (.ref I)) _ _ s
  exact wpAny_pure ⟨_, rfl, "set_iterator", _, hT, F.slot_si_next.lookup, h⟩
/-- a for over a set of one -/
theorem walksSet1 (hh : A.handled = none) (I S : Addr) (hne : S ≠ I) (h : Int) (v : Value) :
    Walks prog w A I [I, S] [I] 1 (fun _ u => u = v) (fun i H => SetItAt w H I S h i ∧ H.get? S = some (set1 (ledOf w) h v)) where
  sub := fun b hb => by simp at hb; simp [hb]
  frame := fun i H H' st hk => ⟨by unfold SetItAt; cases i <;> exact hk I (by simp) _ st.1, hk S (by simp) _ st.2⟩
  item := fun i s Q E hi st hQ => by
    have h0 : i = 0 := by omega
    subst h0
    refine next_one st.1 st.2 fun h' hI' hk => ?_
    exact hQ v h' s.toks rfl ⟨hI', hk S _ hne st.2⟩ fun b o hb e => hk b o (fun e2 => hb (by simp [e2])) e
  done := fun s Q E st hQ => by
    refine next_end (a := nextPlace w h) (i := 1) (n := 1) (ep := 1) hh st.1 st.2 rfl rfl (fun A' Q' E' hq => setNext_end st.2 hq) fun h' hk => ?_
    exact hQ h' s.toks fun b o hb e => hk b o (fun e2 => hb (by simp [e2])) e
  self := fun i s Q E st hQ => by
    cases i with
    | zero => exact si_self st.1 hQ
    | succ i => exact si_self st.1 hQ
theorem walksSet0 (hh : A.handled = none) (I S : Addr) (led : Bool) :
    Walks prog w A I [I, S] [I] 0 (fun _ _ => False) (fun _ H => H.get? I = some (setIt S 0 0 0 0) ∧ H.get? S = some (set0 led)) where
  sub := fun b hb => by simp at hb; simp [hb]
  frame := fun i H H' st hk => ⟨hk I (by simp) _ st.1, hk S (by simp) _ st.2⟩
  item := fun i s Q E hi st hQ => absurd hi (Nat.not_lt_zero _)
  done := fun s Q E st hQ => by
    refine next_end (a := 0) (i := 0) (n := 0) (ep := 0) hh st.1 st.2 rfl rfl (fun A' Q' E' hq => setNext_none st.2 hq) fun h' hk => ?_
    exact hQ h' s.toks fun b o hb e => hk b o (fun e2 => hb (by simp [e2])) e
  self := fun i s Q E st hQ => si_self st.1 hQ
end
section
variable {prog : Program} {w : World} {A : Around} {E : Value → Shared → Prop} {s : Shared} {env : Env} {h₀ : Heap} {x : Str} {body : List Stmt} {Q : Flow → Shared → Prop}
def SetItO (o : Obj) : Prop := o.cls = .type "set_iterator"
theorem iterSet1 {S : Addr} {hs : Int} {u : Value} {m : Str → Option Value} {news : List (Addr × Obj)}
    (hh : A.handled = none) (F : Fr h₀ env.locals s.heap m) (N : News h₀ env.locals s.heap news) (hm : (S, set1 (ledOf w) hs u) ∈ news)
    (J : Nat → (Str → Option Value) → List (Addr × Obj) → Prop) (h0 : J 0 m news) (hJ : ∀ i m' n', J i m' n' → (S, set1 (ledOf w) hs u) ∈ n')
    (turn : ∀ I m₁ news₁ it h tk, J 0 m₁ news₁ → SetItO it → (∀ p ∈ news₁, p.1 ≠ I) → Fr h₀ env.locals h (fun y => if y = x then some u else m₁ y) → News h₀ env.locals h ((I, it) :: news₁) →
      wpAny (model prog w) A (execs body env) (MTurn h₀ env.locals I it (J 1) { s with heap := h, toks := tk } Q) E { s with heap := h, toks := tk })
    (done : ∀ h' tk m' news', Fr h₀ env.locals h' m' → News h₀ env.locals h' news' → J 1 m' news' → Q .next { s with heap := h', toks := tk }) :
    wpAny (model prog w) A (pyIter (.ref S)) (fun it s₂ => LoopAtV prog w A h₀ env x body Q E it s₂) E s := by
  have hS := N _ hm
  have hlt : S < s.heap.objs.size := Heap.lt_size hS.1
  refine pyIter_set1 hS.1 ?_
  refine iterCore (rest := [(S, set1 (ledOf w) hs u)]) SetItO (walksSet1 hh s.heap.objs.size S (Nat.ne_of_lt hlt) hs u) ?_ ?_ ?_ ?_ ?_ (F.push _) (fun p hp => ⟨Heap.get?_push_of_some _ (N p hp).1, (N p hp).2⟩) (fun p hp => Nat.ne_of_lt (Heap.lt_size (N p hp).1))
    ⟨Heap.get?_push_size _ rfl, Heap.get?_push_of_some _ hS.1⟩ J h0 (fun i m' n' hj q hq => by rw [List.mem_singleton.mp hq]; exact hJ i m' n' hj) ?_ ?_
  · intro b hb
    rcases List.mem_cons.mp hb with e | hb
    · exact .inl e
    · exact .inr (.inr ⟨_, by rw [List.mem_singleton.mp hb]; exact List.mem_singleton.mpr rfl⟩)
  · exact fun e => absurd F.ns.lt (e ▸ Nat.lt_irrefl _)
  · exact next_is_new F
  · intro hb
    rcases List.mem_cons.mp hb with e | hb
    · exact absurd F.ns.lt (e ▸ Nat.lt_irrefl _)
    · exact hS.2.1 (List.mem_singleton.mp hb).symm
  · rintro i h ⟨hi, _⟩
    unfold SetItAt at hi
    cases i <;> exact ⟨_, hi, rfl⟩
  · intro i v m₁ news₁ it h tk hi hP hj hio hn F₁ N₁
    have h00 : i = 0 := by omega
    subst h00 hP
    exact turn _ m₁ news₁ it h tk hj hio hn F₁ N₁
  · intro h' tk m' news' F' N' hj
    exact done h' tk m' news' F' N' hj
theorem iterSet0 {S : Addr} {led : Bool} {m : Str → Option Value} {news : List (Addr × Obj)}
    (hh : A.handled = none) (F : Fr h₀ env.locals s.heap m) (N : News h₀ env.locals s.heap news) (hm : (S, set0 led) ∈ news)
    (done : ∀ h' tk, Fr h₀ env.locals h' m → News h₀ env.locals h' news → Q .next { s with heap := h', toks := tk }) :
    wpAny (model prog w) A (pyIter (.ref S)) (fun it s₂ => LoopAtV prog w A h₀ env x body Q E it s₂) E s := by
  have hS := N _ hm
  have hlt : S < s.heap.objs.size := Heap.lt_size hS.1
  refine pyIter_set0 hS.1 ?_
  refine iterCore (rest := [(S, set0 led)]) SetItO (walksSet0 hh s.heap.objs.size S led) ?_ ?_ ?_ ?_ ?_ (F.push _) (fun p hp => ⟨Heap.get?_push_of_some _ (N p hp).1, (N p hp).2⟩) (fun p hp => Nat.ne_of_lt (Heap.lt_size (N p hp).1))
    ⟨Heap.get?_push_size _ rfl, Heap.get?_push_of_some _ hS.1⟩ (fun _ m' n' => m' = m ∧ n' = news) ⟨rfl, rfl⟩ (fun i m' n' hj q hq => by rw [List.mem_singleton.mp hq, hj.2]; exact hm) ?_ ?_
  · intro b hb
    rcases List.mem_cons.mp hb with e | hb
    · exact .inl e
    · exact .inr (.inr ⟨_, by rw [List.mem_singleton.mp hb]; exact List.mem_singleton.mpr rfl⟩)
  · exact fun e => absurd F.ns.lt (e ▸ Nat.lt_irrefl _)
  · exact next_is_new F
  · intro hb
    rcases List.mem_cons.mp hb with e | hb
    · exact absurd F.ns.lt (e ▸ Nat.lt_irrefl _)
    · exact hS.2.1 (List.mem_singleton.mp hb).symm
  · rintro i h ⟨hi, _⟩
    exact ⟨_, hi, rfl⟩
  · intro i v m₁ news₁ it h tk hi
    exact absurd hi (Nat.not_lt_zero _)
  · rintro h' tk m' news' F' N' ⟨rfl, rfl⟩
    exact done h' tk F' N'
end
end Mine
end
section
open PySem PySem.W PyProof.Rows
set_option maxRecDepth 100000
set_option maxHeartbeats 8000000
namespace Mine
def b01 (b : Bool) : Int := if b then 1 else 0
/-- what a reader told a module's name says of a name -/
def verdM (mod mn : Str) : Bool := decide (mn = mod) || PySem.Txt.startswith mn (mod ++ Str.ofString ".")
/-- what a reader told a directory says of a file -/
def verdF (d fn : Str) : Bool := PySem.Txt.startswith fn (d ++ Str.ofString "/")
/-- a reader's attributes -/
abbrev rdDict (P : Params) (t1 t2 t3 : Tok) (S l ig : Addr) (n : Nat) : Obj := dictOf [⟨PyData.keyHash P (Str.ofString "_mods"), .str (Str.ofString "_mods") t1, .ref S⟩, ⟨PyData.keyHash P (Str.ofString "_dirs"), .str (Str.ofString "_dirs") t2, .ref l⟩, ⟨PyData.keyHash P (Str.ofString "_ignore"), .str (Str.ofString "_ignore") t3, .ref ig⟩] n
/-- a reader's objects but its record -/
abbrev rdObjs (P : Params) (t1 t2 t3 : Tok) (x dx S l ig : Addr) (n : Nat) (so lo : Obj) (news : List (Addr × Obj)) : List (Addr × Obj) := (x, instObj 121 dx) :: (dx, rdDict P t1 t2 t3 S l ig n) :: (S, so) :: (l, lo) :: news
section
variable {prog : Program} {w : World} {A : Around} {E : Value → Shared → Prop} {s : Shared} {h₀ : Heap} {L D : Addr} {m : Str → Option Value} {news news' : List (Addr × Obj)}
theorem truthyCons {l : Addr} {v : Value} {vs : List Value} {ep : Nat} {Q : Bool → Shared → Prop} (N : News h₀ L s.heap news) (hm : (l, W.listOf (v :: vs).toArray ep) ∈ news) (hz : vs.length ≤ 1000000)
    (h : ∀ tk, Q true { s with toks := tk }) : wpAny (model prog w) A (truthy (.ref l)) Q E s := by
  refine wpAny_truthy_list (News.isList N hm) (by simp; omega) ?_
  have e : (!(v :: vs).toArray.isEmpty) = true := by simp
  rw [e]
  exact h _
theorem newSetStr_N {l : Addr} {x : Str} {t : Tok} {ep : Nat} {Q : Value → Shared → Prop} (F : Fr h₀ L s.heap m) (N : News h₀ L s.heap news) (hh : A.handled = none) (hm : (l, W.listOf [Value.str x t].toArray ep) ∈ news)
    (h : ∀ D h' (tk : Nat), Fr h₀ L h' m → News h₀ L h' ((D, set1 (ledOf w) ((PySem.strKind prog w).hash x) (.str x t)) :: news) → (∀ p ∈ news, p.1 < D) → Q (.ref D) { s with heap := h', toks := tk }) :
    wpAny (model prog w) A (call (.type "set") [.ref l]) Q E s := by
  refine call_set_str hh (News.isList N hm) fun h' tk hS hk => ?_
  have hL := F.ns.lt
  refine h s.heap.objs.size h' tk ⟨F.ns.keeps hk, fun b o e => hk b o (F.keep b o e), F.above⟩ (fun p hp => ?_) fun p hp => Heap.lt_size (N p hp).1
  rcases List.mem_cons.mp hp with rfl | hp
  · exact ⟨hS, Nat.ne_of_gt hL, Heap.get?_none_of_le (Nat.le_trans F.above (Nat.le_of_lt hL))⟩
  · exact ⟨hk _ _ (N p hp).1, (N p hp).2⟩
theorem set1_obj (led : Bool) (x : Str) (t : Tok) : Obj.SetObjOf (PySem.strKind prog w) (set1 led ((PySem.strKind prog w).hash x) (.str x t)) (fun k => decide (k = x)) 1 := by
  refine ⟨⟨rfl, rfl, rfl⟩, _, _, _, rfl, ?_, fun k => ?_, rfl, rfl⟩
  · intro e he
    have he' : e = ((PySem.strKind prog w).hash x, Value.str x t) := by simpa using he
    subst he'
    exact ⟨⟨x, strKind_is _ _ _ _, rfl⟩, rfl⟩
  · constructor
    · intro hk
      have hk' : k = x := by simpa using hk
      subst hk'
      exact ⟨_, by simp; rfl, strKind_is _ _ _ _⟩
    · rintro ⟨e, he, hk⟩
      have he' : e = ((PySem.strKind prog w).hash x, Value.str x t) := by simpa using he
      subst he'
      have : x = k := by
        have h2 : (Value.str x t).isStr k = true := hk
        simpa [Value.isStr] using h2
      simp [this]
theorem setIn1_N {S : Addr} {x y : Str} {t u : Tok} {led : Bool} {Q : Value → Shared → Prop} (N : News h₀ L s.heap news) (hm : (S, set1 led ((PySem.strKind prog w).hash x) (.str x t)) ∈ news)
    (h : ∀ tk, Q (.bool (decide (y = x))) { s with toks := tk }) : wpAny (model prog w) A (compareOp .In (.str y u) (.ref S)) Q E s := by
  obtain ⟨own, rest, rfl⟩ := List.append_of_mem hm
  exact in_sl1 (knd := PySem.strKind prog w) N (set1_obj led x t) (by show 1 < 4096; omega) (strKind_is _ _ _ _) rfl (h _)
theorem setIn0_N {S : Addr} {y : Str} {u : Tok} {led : Bool} {Q : Value → Shared → Prop} (N : News h₀ L s.heap news) (hm : (S, set0 led) ∈ news)
    (h : ∀ tk, Q (.bool false) { s with toks := tk }) : wpAny (model prog w) A (compareOp .In (.str y u) (.ref S)) Q E s := by
  obtain ⟨own, rest, rfl⟩ := List.append_of_mem hm
  exact in_sl1 (knd := PySem.strKind prog w) (k := y) N (setObjOf_fresh led) (by show 0 < 4096; omega) (strKind_is _ _ _ _) rfl (h _)
variable {knd : KeyKind prog w Str} {d : Addr} {o : Obj} {kvs : List (Str × Value)} {k : Str} {key v : Value}
theorem dictIn_none {Q : Value → Shared → Prop} (N : News h₀ L s.heap news) (hp : (d, o) ∈ news) (hd : o.IsDictOf knd kvs) (lo : (d == sysModules) = false) (hkey : knd.is k key = true) (hv : valueAt kvs k = none) (h : ∀ tk, Q (.bool false) { s with toks := tk }) :
    wpAny (model prog w) A (compareOp .In key (.ref d)) Q E s := kda_in N hp hd lo hkey false (by rw [hv]; rfl) (h _)
theorem dictIn_some {Q : Value → Shared → Prop} (N : News h₀ L s.heap news) (hp : (d, o) ∈ news) (hd : o.IsDictOf knd kvs) (lo : (d == sysModules) = false) (hkey : knd.is k key = true) (hv : valueAt kvs k = some v) (h : ∀ tk, Q (.bool true) { s with toks := tk }) :
    wpAny (model prog w) A (compareOp .In key (.ref d)) Q E s := kda_in N hp hd lo hkey true (by rw [hv]; rfl) (h _)
theorem dictItem {Q : Value → Shared → Prop} (N : News h₀ L s.heap news) (hp : (d, o) ∈ news) (hd : o.IsDictOf knd kvs) (hkey : knd.is k key = true) (hv : valueAt kvs k = some v) (h : ∀ tk, Q v { s with toks := tk }) :
    wpAny (model prog w) A (getItem (.ref d) key) Q E s := wpAny_getItem_of hkey (kda_dict N hp hd).mapOf hv (h _)
theorem joinV {l : Addr} {vs : List Value} {ys : List Str} {ep : Nat} {x : Str} {t : Tok} {Q : Value → Shared → Prop} (N : News h₀ L s.heap news) (hm : (l, W.listOf vs.toArray ep) ∈ news) (hi : StrsAre vs ys) (hsep : x.length ≤ 64) (hok : (ys.map (·.length)).sum + ys.length * 64 ≤ 16777216)
    (h : ∀ t' k, Q (.str (PySem.Txt.join x ys) t') { s with toks := k }) : wpAny (model prog w) A (call (.builtin "str.join") [.str x t, .ref l]) Q E s :=
  join_listC (News.isList N hm) (by simpa using hi) hsep hok h
theorem strsAre_take {vs : List Value} {ys : List Str} (h : StrsAre vs ys) : ∀ k, StrsAre (vs.take k) (ys.take k) := by
  induction h with
  | nil => intro k; simp; exact .nil
  | cons y t h ih =>
    intro k
    cases k with
    | zero => exact .nil
    | succ k => exact .cons y t (ih k)
theorem tjoin_len (x : Str) (ys : List Str) : (PySem.Txt.join x ys).length ≤ (ys.map (·.length)).sum + ys.length * x.length := by
  show (PySem.Builtin.Str.glued x ys).length ≤ _
  rw [StrLaws.glued_eq_join]
  exact StrLaws.join_length_le x ys
end
end Mine
end
section
open PySem PySem.W PyProof.Rows
namespace Mine
abbrev tl_ (s : Str) : List Nat := s.cps.toList
theorem str_ext {a b : Str} (h : tl_ a = tl_ b) : a = b := Str.ext' (Array.toList_inj.mp h)
theorem tl_append (a b : Str) : tl_ (a ++ b) = tl_ a ++ tl_ b := by simp [tl_, Str.cps_append]
theorem sw_iff (x y : Str) : PySem.Txt.startswith x y = true ↔ tl_ y <+: tl_ x := by
  unfold PySem.Txt.startswith
  rw [StrLaws.subAt_eq, List.drop_zero, Bool.and_eq_true, decide_eq_true_eq, beq_iff_eq]
  have e1 : y.length = (tl_ y).length := by simp [Str.length, tl_]
  have e2 : x.length = (tl_ x).length := by simp [Str.length, tl_]
  rw [e1, e2]
  constructor
  · rintro ⟨_, h2⟩
    exact List.prefix_iff_eq_take.mpr h2.symm
  · intro h
    exact ⟨by rw [Nat.zero_add]; exact h.length_le, (List.prefix_iff_eq_take.mp h).symm⟩
/-- each word with the mark behind it -/
def enc (c : Nat) : List Str → List Nat
  | [] => []
  | w :: r => tl_ w ++ c :: enc c r
theorem cut_prefix {c : Nat} : ∀ (x y A B : List Nat), c ∉ x → c ∉ y → (x ++ c :: A <+: y ++ c :: B ↔ x = y ∧ A <+: B)
  | [], [], A, B, _, _ => by simp
  | [], y :: ys, A, B, _, hy => by
    simp only [List.mem_cons, not_or] at hy
    simp [List.cons_prefix_cons, hy.1]
  | x :: xs, [], A, B, hx, _ => by
    simp only [List.mem_cons, not_or] at hx
    simp [List.cons_prefix_cons, Ne.symm hx.1]
  | x :: xs, y :: ys, A, B, hx, hy => by
    simp only [List.mem_cons, not_or] at hx hy
    simp [List.cons_prefix_cons, cut_prefix xs ys A B hx.2 hy.2, and_assoc]
theorem enc_prefix {c : Nat} {t : List Nat} (ht : c ∉ t) : ∀ (a b : List Str), (∀ x ∈ a, c ∉ tl_ x) → (∀ x ∈ b, c ∉ tl_ x) → (enc c a <+: enc c b ++ t ↔ a <+: b)
  | [], b, _, _ => by simp [enc]
  | x :: a, [], _, _ => by
    simp only [enc, List.nil_append, List.prefix_nil, reduceCtorEq, iff_false]
    intro h
    exact ht (h.subset (by simp))
  | x :: a, y :: b, ha, hb => by
    simp only [enc, List.append_assoc, List.cons_append]
    rw [cut_prefix _ _ _ _ (ha x (.head _)) (hb y (.head _)), enc_prefix ht a b (fun z hz => ha z (.tail _ hz)) (fun z hz => hb z (.tail _ hz)), List.cons_prefix_cons]
    constructor
    · rintro ⟨h1, h2⟩; exact ⟨str_ext h1, h2⟩
    · rintro ⟨h1, h2⟩; exact ⟨by rw [h1], h2⟩
theorem tjoin (sep : Str) (l : List Str) : PySem.Txt.join sep l = Str.join sep l := StrLaws.glued_eq_join sep l
theorem join_enc (c : Nat) : ∀ (l : List Str), l ≠ [] → tl_ (PySem.Txt.join ⟨#[c]⟩ l) ++ [c] = enc c l
  | [], h => absurd rfl h
  | [x], _ => by rw [tjoin]; simp [Str.join, enc]
  | x :: y :: r, _ => by
    have ih := join_enc c (y :: r) (by simp)
    rw [tjoin] at ih ⊢
    show tl_ (x ++ ⟨#[c]⟩ ++ Str.join ⟨#[c]⟩ (y :: r)) ++ [c] = _
    rw [tl_append, tl_append, List.append_assoc, ih]
    simp [enc, tl_]
theorem enc_inj {c : Nat} {a b : List Str} (ha : ∀ x ∈ a, c ∉ tl_ x) (hb : ∀ x ∈ b, c ∉ tl_ x) (h : enc c a = enc c b) : a = b := by
  have h1 := (enc_prefix (t := []) (c := c) (by simp) a b ha hb).mp (by rw [h]; simp)
  have h2 := (enc_prefix (t := []) (c := c) (by simp) b a hb ha).mp (by rw [h]; simp)
  exact List.IsPrefix.eq_of_length h1 (Nat.le_antisymm h1.length_le h2.length_le)
theorem join_inj {c : Nat} {a b : List Str} (ha : ∀ x ∈ a, c ∉ tl_ x ∧ tl_ x ≠ []) (hb : ∀ x ∈ b, c ∉ tl_ x ∧ tl_ x ≠ []) (h : PySem.Txt.join ⟨#[c]⟩ a = PySem.Txt.join ⟨#[c]⟩ b) : a = b := by
  have nil : ∀ (l : List Str), (∀ x ∈ l, c ∉ tl_ x ∧ tl_ x ≠ []) → tl_ (PySem.Txt.join ⟨#[c]⟩ []) = tl_ (PySem.Txt.join ⟨#[c]⟩ l) → l = [] := by
    intro l hl e
    cases l with
    | nil => rfl
    | cons x r =>
      exfalso
      have h1 := join_enc c (x :: r) (by simp)
      rw [← e, tjoin] at h1
      have h2 : [c] = tl_ x ++ c :: enc c r := by simpa [Str.join, tl_, Str.empty, enc] using h1
      have h3 := (hl x (.head _)).2
      cases hx : tl_ x with
      | nil => exact h3 hx
      | cons y ys =>
        rw [hx] at h2
        simp at h2
  by_cases h1 : a = []
  · subst h1; exact (nil b hb (by rw [h])).symm
  · by_cases h2 : b = []
    · subst h2; exact nil a ha (by rw [h])
    · refine enc_inj (c := c) (fun x hx => (ha x hx).1) (fun x hx => (hb x hx).1) ?_
      rw [← join_enc c a h1, ← join_enc c b h2, h]
theorem dot_is : Str.ofString "." = ⟨#[46]⟩ := by decide +kernel
theorem slash_is : Str.ofString "/" = ⟨#[47]⟩ := by decide +kernel
/-- what the modules' reader tells: the words of its name come first -/
theorem verdM_iff {c r : List Str} (hc : c ≠ []) (fc : ∀ x ∈ c, 46 ∉ tl_ x ∧ tl_ x ≠ []) (fr : ∀ x ∈ r, 46 ∉ tl_ x ∧ tl_ x ≠ []) : verdM (PySem.Txt.join (Str.ofString ".") c) (PySem.Txt.join (Str.ofString ".") r) = decide (c <+: r) := by
  unfold verdM
  rw [dot_is]
  rw [Bool.eq_iff_iff, Bool.or_eq_true, decide_eq_true_eq, decide_eq_true_eq, sw_iff, tl_append, join_enc _ _ hc]
  by_cases hr : r = []
  · subst hr
    constructor
    · rintro (h | h)
      · exact absurd (join_inj fr fc h).symm hc
      · rw [tjoin] at h
        have h1 : enc 46 c = [] := by simpa [Str.join, tl_, Str.empty] using h
        cases c with
        | nil => exact absurd rfl hc
        | cons x c => simp [enc] at h1
    · intro h
      exact absurd (List.prefix_nil.mp h) hc
  · have e := enc_prefix (c := 46) (t := []) (by simp) c r (fun x hx => (fc x hx).1) (fun x hx => (fr x hx).1)
    rw [List.append_nil] at e
    rw [← e, ← join_enc _ r hr]
    constructor
    · rintro (h | h)
      · rw [h, ← join_enc _ c hc]; exact List.prefix_refl _
      · exact List.IsPrefix.trans h (List.prefix_append _ _)
    · intro h
      rcases List.prefix_concat_iff.mp h with h | h
      · left
        rw [← join_enc _ c hc] at h
        exact (str_ext (List.append_cancel_right h)).symm
      · exact .inr h
theorem mpy_is : tl_ (Str.ofString "/m.py") = [47, 109, 46, 112, 121] := by decide +kernel
/-- what the directories' reader tells: the words of its directory come first -/
theorem verdF_iff {c r : List Str} (hc : c ≠ []) (fc : ∀ x ∈ c, 47 ∉ tl_ x ∧ tl_ x ≠ []) (fr : ∀ x ∈ r, 47 ∉ tl_ x ∧ tl_ x ≠ []) :
    verdF (Str.ofString "/" ++ PySem.Txt.join (Str.ofString "/") c) (Str.ofString "/" ++ PySem.Txt.join (Str.ofString "/") r ++ Str.ofString "/m.py") = decide (c <+: r) := by
  unfold verdF
  rw [Bool.eq_iff_iff, decide_eq_true_eq, sw_iff, tl_append, tl_append, tl_append, tl_append, mpy_is, slash_is]
  rw [List.append_assoc, List.append_assoc, List.prefix_append_right_inj]
  show tl_ (PySem.Txt.join ⟨#[47]⟩ c) ++ [47] <+: _ ↔ _
  rw [join_enc _ _ hc]
  by_cases hr : r = []
  · subst hr
    constructor
    · intro h
      exfalso
      rw [tjoin] at h
      cases c with
      | nil => exact hc rfl
      | cons x c =>
        obtain ⟨h1, h2⟩ := fc x (.head _)
        cases hx : tl_ x with
        | nil => exact h2 hx
        | cons y ys =>
          rw [hx] at h1
          simp only [enc, hx, Str.join, tl_, Str.empty, List.nil_append, List.cons_append, List.cons_prefix_cons] at h
          exact h1 (by rw [h.1]; exact .head _)
    · intro h
      exact absurd (List.prefix_nil.mp h) hc
  · have e : tl_ (PySem.Txt.join ⟨#[47]⟩ r) ++ [47, 109, 46, 112, 121] = enc 47 r ++ [109, 46, 112, 121] := by
      rw [← join_enc _ r hr]; simp
    rw [e]
    exact enc_prefix (by decide) c r (fun x hx => (fc x hx).1) (fun x hx => (fr x hx).1)
/-- the words of a joined text are its parts -/
theorem split_join {c : Nat} {l : List Str} (hl : l ≠ []) (hf : ∀ x ∈ l, c ∉ tl_ x) : PySem.Txt.split (PySem.Txt.join ⟨#[c]⟩ l) ⟨#[c]⟩ = l := by
  have h1 := StrLaws.join_split (PySem.Txt.join ⟨#[c]⟩ l) ⟨#[c]⟩
  have h2 := StrLaws.split_free (PySem.Txt.join ⟨#[c]⟩ l) c
  generalize hs : PySem.Txt.split (PySem.Txt.join ⟨#[c]⟩ l) ⟨#[c]⟩ = q at *
  have hq : q ≠ [] := by
    intro e
    subst e
    unfold PySem.Txt.split at hs
    split at hs
    · cases hs
    · split at hs
      · cases hs
      · simp [Builtin.Str.partsBetween] at hs
  refine enc_inj (c := c) h2 hf ?_
  rw [← join_enc c l hl, ← join_enc c q hq, tjoin _ q, h1]
end Mine
end
section
open PySem PySem.W PyProof.Rows
set_option maxRecDepth 100000
set_option maxHeartbeats 8000000
namespace Mine
section
variable {prog : Program} {w : World} {A : Around} {E : Value → Shared → Prop} {s : Shared} {env : Env} {h₀ : Heap} {x : Str} {body : List Stmt} {Q : Flow → Shared → Prop}
/-- a for over a range by ones -/
theorem iterRng {r : Addr} {a b : Int} {t u v : Tok} {n : Nat} {m : Str → Option Value} {news : List (Addr × Obj)} (J : Nat → (Str → Option Value) → List (Addr × Obj) → Prop)
    (hh : A.handled = none) (F : Fr h₀ env.locals s.heap m) (N : News h₀ env.locals s.heap news) (hr : IsRange s.heap r a b 1 t u v) (hsm : Builtin.Range.small a b 1 = true) (hn : Builtin.Range.rangeSize a b 1 = ((n : Nat) : Int))
    (h0 : J 0 m news)
    (turn : ∀ I i t m₁ news₁ it h tk, i < n → J i m₁ news₁ → (∀ p ∈ news₁, p.1 ≠ I) → Fr h₀ env.locals h (fun y => if y = x then some (.int (a + (i : Int)) t) else m₁ y) → News h₀ env.locals h ((I, it) :: news₁) →
      wpAny (model prog w) A (execs body env) (MTurn h₀ env.locals I it (J (i + 1)) { s with heap := h, toks := tk } Q) E { s with heap := h, toks := tk })
    (done : ∀ h' tk m' news', Fr h₀ env.locals h' m' → News h₀ env.locals h' news' → J n m' news' → Q .next { s with heap := h', toks := tk }) :
    wpAny (model prog w) A (pyIter (.ref r)) (fun it s₂ => LoopAtV prog w A h₀ env x body Q E it s₂) E s := by
  refine wpAny_pyIter_range hr hsm ?_
  refine iterCore (rest := []) (fun _ => True) (LCg.range_walks (I := s.heap.objs.size) hh a n) ?_ ?_ ?_ ?_ ?_ (F.push _) (fun p hp => ⟨Heap.get?_push_of_some _ (N p hp).1, (N p hp).2⟩) (fun p hp => Nat.ne_of_lt (Heap.lt_size (N p hp).1))
    (by show IsRangeIter _ _ _ _ _; rw [hn]; simpa using Heap.get?_push_size _ rfl) J h0 (fun i m' n' hj q hq => nomatch hq) ?_ ?_
  · intro b hb
    rcases List.mem_cons.mp hb with e | hb
    · exact .inl e
    · cases hb
  · exact fun e => absurd F.ns.lt (e ▸ Nat.lt_irrefl _)
  · exact next_is_new F
  · intro hb
    rcases List.mem_cons.mp hb with e | hb
    · exact absurd F.ns.lt (e ▸ Nat.lt_irrefl _)
    · cases hb
  · rintro i h hst
    exact ⟨_, hst, trivial⟩
  · rintro i v m₁ news₁ it h tk hi ⟨t, rfl⟩ hj _ hn F₁ N₁
    exact turn _ i t m₁ news₁ it h tk hi hj hn F₁ N₁
  · intro h' tk m' news' F' N' hj
    exact done h' tk m' news' F' N' hj
end
/-- a list object: its address, its items, its mark -/
abbrev CO := Nat × List Value × Nat
abbrev coObj (c : CO) : Addr × Obj := (c.1, W.listOf c.2.1.toArray c.2.2)
abbrev coRef (c : CO) : Value := .ref c.1
/-- lists of ints, each the ints that f says -/
def IntsOk {α : Type} (f : α → List Int) : List CO → List α → Prop
  | [], [] => True
  | c :: r, n :: k => IntsAre c.2.1 (f n) ∧ IntsOk f r k
  | _, _ => False
theorem IntsOk.snoc {α : Type} {f : α → List Int} {c : CO} {n : α} (h : IntsAre c.2.1 (f n)) : ∀ {cs : List CO} {kn : List α}, IntsOk f cs kn → IntsOk f (cs ++ [c]) (kn ++ [n])
  | [], [], _ => ⟨h, trivial⟩
  | _ :: _, _ :: _, x => ⟨x.1, IntsOk.snoc h x.2⟩
theorem IntsOk.length {α : Type} {f : α → List Int} : ∀ {cs : List CO} {kn : List α}, IntsOk f cs kn → cs.length = kn.length
  | [], [], _ => rfl
  | _ :: _, _ :: _, x => by simp [IntsOk.length x.2]
theorem IntsOk.get {α : Type} {f : α → List Int} : ∀ {cs : List CO} {kn : List α}, IntsOk f cs kn → ∀ {i : Nat} {n : α}, kn[i]? = some n → ∃ c, cs[i]? = some c ∧ IntsAre c.2.1 (f n)
  | [], [], _, i, n, h => by simp at h
  | c :: _, m :: _, x, 0, n, h => by
    have : m = n := by simpa using h
    exact ⟨c, rfl, this ▸ x.1⟩
  | _ :: _, _ :: _, x, i + 1, n, h => by
    obtain ⟨c, a, b⟩ := IntsOk.get x.2 (i := i) (n := n) (by simpa using h)
    exact ⟨c, by simpa using a, b⟩
theorem TabS.mems {tl : List (Addr × Obj)} (h : TabS tl) : (∃ ps, (37, tabObj ps) ∈ tl) ∧ (∃ ps, (44, tabObj ps) ∈ tl) := by
  obtain ⟨a, b, rfl, hA, hB⟩ := h
  obtain ⟨p, hp⟩ := hA.at
  obtain ⟨q, hq⟩ := hB.at
  exact ⟨⟨p, List.mem_append_left _ hp⟩, ⟨q, List.mem_append_right _ hq⟩⟩
theorem walk_mem {x a b c d e : Addr × Obj} {l r : List (Addr × Obj)} (h : x ∈ r) : x ∈ a :: b :: c :: d :: e :: (l ++ r) := by
  simp only [List.mem_cons, List.mem_append]
  simp [h]
theorem comp_sub {a b c d e f g h : Addr × Obj} {cs : List CO} {x : CO} {tl : List (Addr × Obj)} : ∀ p ∈ a :: b :: c :: d :: e :: f :: g :: h :: ((cs ++ [x]).map coObj ++ tl), p ∈ coObj x :: ((a :: b :: c :: d :: e :: f :: g :: h :: cs.map coObj) ++ tl) := by
  intro p hp
  simp only [List.map_append, List.map_cons, List.map_nil, List.mem_cons, List.mem_append, List.not_mem_nil, or_false] at hp ⊢
  rcases hp with h | h | h | h | h | h | h | h | (h | h) | h <;> simp only [h, true_or, or_true]
theorem offGrow {I C D : Addr} {oI oC oD : Obj} {fx : List (Addr × Obj)} {cs : List CO} {c : CO} {tl tl' : List (Addr × Obj)} (off : ∀ p ∈ fx ++ (cs.map coObj ++ tl), p.1 ≠ I ∧ p.1 ≠ C ∧ p.1 ≠ D)
    (G : Grow ((I, oI) :: (C, oC) :: (D, oD) :: (fx ++ cs.map coObj)) tl tl') (l : ∀ p ∈ ((I, oI) :: (C, oC) :: (D, oD) :: (fx ++ cs.map coObj)) ++ tl', p.1 < c.1) :
    ∀ p ∈ fx ++ ((cs ++ [c]).map coObj ++ tl'), p.1 ≠ I ∧ p.1 ≠ C ∧ p.1 ≠ D := by
  intro p hp
  simp only [List.map_append, List.map_cons, List.map_nil, List.mem_cons, List.mem_append, List.not_mem_nil, or_false] at hp
  rcases hp with h | (h | h) | h
  · exact off p (List.mem_append_left _ h)
  · exact off p (List.mem_append_right _ (List.mem_append_left _ h))
  · subst h
    exact ⟨Nat.ne_of_gt (l (I, oI) (by simp)), Nat.ne_of_gt (l (C, oC) (by simp)), Nat.ne_of_gt (l (D, oD) (by simp))⟩
  · rcases G p h with ⟨q, hq, e⟩ | g
    · rw [← e]; exact off q (List.mem_append_right _ (List.mem_append_right _ hq))
    · exact ⟨Nat.ne_of_gt (g (I, oI) (by simp)), Nat.ne_of_gt (g (C, oC) (by simp)), Nat.ne_of_gt (g (D, oD) (by simp))⟩
theorem codes_step {h₀ h' : Heap} {L I C D : Addr} {m : Str → Option Value} {s₁ : Shared} {oI oC oD : Obj} {S : List (Addr × Obj) → Prop} {tk r ep : Nat} {vs : List Value} {a b c d e : Addr × Obj} {cs0 : List CO} {tl tl' : List (Addr × Obj)} {f : Int → List Int} {n : Int} {k k' : List Int}
    (F : Fr h₀ L h' m) (N : News h₀ L h' ((r, W.listOf vs.toArray ep) :: (((I, oI) :: (C, oC) :: (D, oD) :: a :: b :: c :: d :: e :: cs0.map coObj) ++ tl')))
    (l : ∀ p ∈ ((I, oI) :: (C, oC) :: (D, oD) :: a :: b :: c :: d :: e :: cs0.map coObj) ++ tl', p.1 < r)
    (G : Grow ((I, oI) :: (C, oC) :: (D, oD) :: a :: b :: c :: d :: e :: cs0.map coObj) tl tl') (TS : TabS tl')
    (off : ∀ p ∈ a :: b :: c :: d :: e :: (cs0.map coObj ++ tl), p.1 ≠ I ∧ p.1 ≠ C ∧ p.1 ≠ D) (hI : IntsAre vs (f n)) (hcs : IntsOk f cs0 k) (hk : k' = k ++ [n])
    (hS : S (a :: b :: c :: d :: e :: ((cs0 ++ [(r, vs, ep)]).map coObj ++ tl'))) :
    LCg.CompEnd h₀ L m s₁ I oI C oC D oD S (fun y nw => Stop (∃ (cs : List CO) (tl : List (Addr × Obj)), TabS tl ∧ nw = a :: b :: c :: d :: e :: (cs.map coObj ++ tl) ∧ cs0.map coRef ++ [y] = cs.map coRef ∧ IntsOk f cs k')) (.ref r) { s₁ with heap := h', toks := tk } := by
  refine LCg.CompEnd.intro F (News.sub N (comp_sub (x := (r, vs, ep)))) _ (fun _ h => h) (LCg.Off3.of (offGrow (fx := [a, b, c, d, e]) (c := (r, vs, ep)) off G l)) hS ⟨_, _, TS, rfl, by simp only [List.map_append, List.map_cons, List.map_nil], ?_⟩
  rw [hk]
  exact IntsOk.snoc hI hcs
theorem preOkCo (cs : List CO) : PreOk (cs.map coObj) := fun p hp => by
  obtain ⟨c, _, rfl⟩ := List.mem_map.mp hp
  exact .inl (nt2 rfl)
end Mine
end
section
open PySem PySem.W PyProof.Rows
set_option maxRecDepth 100000
set_option maxHeartbeats 8000000
namespace Mine
local macro_rules | `(tactic| k_lt $h:ident) => `(tactic| ((have lAll := $h); (replace $h := allLt_of $h); simp only [AllLt, and_true] at $h:ident))
local macro_rules | `(tactic| walk_at "mine sub") => `(tactic| (intro pS hpS; first | exact hpS | exact List.mem_append_left _ hpS | exact List.mem_append_right _ hpS | (repeat (first | exact hpS | exact List.mem_append_left _ hpS | exact List.mem_append_right _ hpS | refine List.Mem.tail _ ?_))))
local macro_rules | `(tactic| walk_at "mine nf") => `(tactic| first | exact ntSeq rfl | exact ntDict rfl | exact ntOf (cellNF (by assumption)) | exact ntIter (by assumption) | exact ntRange (by assumption))
local macro_rules | `(tactic| walk_at "mine preok") => `(tactic| first | assumption | exact PreOk.nil | (refine PreOk.cons ?pokA ?pokB; (case pokA => first | exact nt2 rfl | exact nt1 (cellNF (by assumption)) | exact nt2 (by assumption)); (case pokB => walk_at "mine preok")) | (refine' PreOk.consA ?pokC ?pokD; (case pokC => first | assumption | (refine ⟨?_, ?_⟩ <;> omega)); (case pokD => walk_at "mine preok")))
local macro_rules | `(tactic| walk_at "mine sub2") => `(tactic| first | exact (fun _ h => h) | (refine' cons_sub ?sbA ?sbB; (case sbA => k_mem); (case sbB => walk_at "mine sub2")) | (refine' tail_sub ?stA; (case stA => walk_at "mine sub2")))
local macro_rules | `(tactic| walk_at "mine grow") => `(tactic| first | assumption | exact Grow.refl _ _ | (refine' Grow.sub ?gwA ?gwB; (case gwA => assumption); (case gwB => walk_at "mine sub2")) | (refine' Grow.trans ?gwC ?gwD; (case gwC => assumption); (case gwD => walk_at "mine grow")))
local macro_rules | `(tactic| k_all) => `(tactic| first | assumption | exact ltNe (by assumption) (by omega) | exact ltNeL (by assumption) (by omega) | (refine' ltSub ?lsA ?lsB; (case lsA => assumption); (case lsB => walk_at "mine sub")) | (refine' neSub ?lsA ?lsB; (case lsA => assumption); (case lsB => walk_at "mine sub")) | (refine' TabS.ne ?tsA ?tsB ?tsC ?tsD ?tsE; (case tsA => assumption); (case tsB => assumption); (case tsC => k_mem); (case tsD => walk_at "mine sub"); (case tsE => walk_at "mine nf")) | (refine appNe ?apA ?apB; (case apA => k_all); (case apB => k_all)))
local macro_rules | `(tactic| k_ne) => `(tactic| (refine neN ?_; (try dsimp only); first | with_reducible assumption | (refine Ne.symm ?_; with_reducible assumption) | lia | omega))
local macro_rules | `(tactic| walk_at "ao") => `(tactic| first | assumption | omega | decide | (simp; done) | (simp; omega))
local macro_rules | `(tactic| walk_at "cc") => `(tactic| ((all_goals (try first | ((with_reducible show News _ _ _ _); k_asm) | ((with_reducible show Fr _ _ _ _); k_asm))); (all_goals (try first | ((with_reducible refine propN ?_); with_reducible assumption) | (with_reducible rfl) | ((with_reducible refine roomN ?_); ktr_room) | ((with_reducible refine unitN ?_); ktr_units) | ((with_reducible refine preN ?_); walk_at "mine preok") | ((with_reducible refine memN ?_); k_mem) | ((with_reducible show Upd _ _ _ _ _); k_upd) | ((with_reducible refine ltA ?_); walk_at "ao") | ((with_reducible refine leA ?_); walk_at "ao") | ((with_reducible refine neA ?_); walk_at "ao") | ((with_reducible refine eqA ?_); first | rfl | omega | decide))); (all_goals refine' propN ?_)))
local macro_rules | `(tactic| walk_at "il") => `(tactic| (intros; rename_i l1; (try k_lt l1); (try k_sweep)))
local macro_rules | `(tactic| walk_at "binaryOp RShift int int") => `(tactic| (refine rshift_int ?rs1 ?_; (case rs1 => first | assumption | omega)))
local macro_rules | `(tactic| walk_at "binaryOp LShift int int") => `(tactic| (refine lshift_int_small ?ls1 ?ls2 ?ls3 ?_; (case ls1 => first | assumption | omega); (case ls2 => first | assumption | omega); (case ls3 => first | assumption | omega)))
local macro_rules | `(tactic| walk_at "call builtin:list.append") => `(tactic| (k_here; (with_reducible show wpAny _ _ (call (Value.builtin _) [Value.ref _, _]) _ _ _); k_dflt (refine' appendV _ _ _ _ ?_; walk_at "cc"); intro h' F' N'; (try k_sweep)))
local macro_rules | `(tactic| walk_at "call builtin:list.reverse") => `(tactic| (k_here; (with_reducible show wpAny _ _ (call (Value.builtin _) [Value.ref _]) _ _ _); k_dflt (refine' reverseV _ _ _ _ ?_; walk_at "cc"); intro h' F' N'; (try k_sweep)))
section
open PySem PySem.W PyProof.Rows
set_option maxRecDepth 100000
set_option maxHeartbeats 8000000
theorem fill0 : PySem.Challenge.rw_pg0172_02 = PySem.Challenge.rw_pg0172_02 ∧ Mine.hd.heap_1 = Mine.hd.heap_1 := by
  w_top off
  k_fill
  exact ⟨rfl, rfl⟩

section
variable {w : World} {p : Program} {loose : List Str} {mean : ExcName → Option Value} {mg mb : Str → Option Value}
  {dp un : Nat} {gd : Option (List Code)} {cn : Str} {cs : Scope} {a : Addr} {ccd : Value} {cl : List (Str × Addr)} {outer : List Env} {A₀ : Around} {base h₀ : Heap} {L : Addr} {m : Str → Option Value} {s : Shared} {Q E : Value → Shared → Prop} {news : List (Addr × Obj)}

theorem c_div2n1n (B : Below A₀ base outer h₀) (F : Fr h₀ L s.heap m) (X : (Mine.hd.heap_1 w.params).In h₀) (N : News h₀ L s.heap news) (T : Top p loose mean mg mb h₀) (hk : cs.kind = .function)
    (hd : dp + 1 < recursionLimit) (hu : un + 8 < cLine) (x y n : Int) (tx ty tn : Tok) (hy : 0 < y) (hy2 : y < 1073741824) (hn : (Builtin.Int.intBits x : Int) - n ≤ 4000)
    (ret : ∀ (h' : Heap) (tk' t1 t2 : Nat) (r : Addr), Fr h₀ L h' m → News h₀ L h' ((r, { cls := .type "tuple", data := .seq #[.int (x.fdiv y) t1, .int (x.fmod y) t2] }) :: news) → (∀ p ∈ news, p.1 < r) → Q (.ref r) { s with heap := h', toks := tk' }) :
    wpAny (model PySem.Challenge.rw_pg0172_02.row.prog w) (ktrTop dp un gd cn cs L a ccd cl outer) (call (.ref 28) [.int x tx, .int y ty, .int n tn]) Q E s := by
  refine wpAny_call ?_
  k_dflt cell_enter
  k_steps
  refine' ret _ _ _ _ _ ?r1 ?r2 ?r3
  case r1 => assumption
  case r2 => assumption
  case r3 => exact fun p hp => Heap.lt_size (News.sub (by assumption) (fun _ h => h) p hp).1



local macro_rules | `(tactic| walk_at "exec FunctionDef") => `(tactic| refine Stop.to ?_)
theorem c_int2digits {pre tl : List (Addr × Obj)} (B : Below A₀ base outer h₀) (F : Fr h₀ L s.heap m) (X : (Mine.hd.heap_1 w.params).In h₀) (N : News h₀ L s.heap (pre ++ tl)) (T : Top p loose mean mg mb h₀) (hk : cs.kind = .function)
    (C1 : CodeHd base 41 37) (TS : TabS tl) (hpre : PreOk pre)
    (hd : dp + 100 < recursionLimit) (hu : un + 400 < cLine) (x n : Int) (tx tn : Tok) (hx : 0 ≤ x) (hx2 : x < 2 ^ 62) (hn : 0 < n) (hn2 : n < 64)
    (ret : ∀ (h' : Heap) (tk' : Nat) (r : Addr) (vs : List Value) (tl' : List (Addr × Obj)), Fr h₀ L h' m → TabS tl' → Grow pre tl tl' → News h₀ L h' ((r, W.listOf vs.toArray 0) :: (pre ++ tl')) → IntsAre vs (digI (2 ^ n.toNat) (ndig x n) x) → Q (.ref r) { s with heap := h', toks := tk' }) :
    wpAny (model PySem.Challenge.rw_pg0172_02.row.prog w) (ktrTop dp un gd cn cs L a ccd cl outer) (call (.ref 42) [.int x tx, .int n tn]) Q E s := by
  obtain ⟨hK0, hK1, hK2⟩ := ndig_facts hx hx2 hn
  refine wpAny_call ?_
  k_dflt (refine' code_defC ?k1 ?k2 ?k3 ?k4 ?k5 ?kA ?kF ?kK ?k6 ?k7 ?k8 ?k9 ?kB ?kD ?_ ?c2 ?c3 ?c4; (case kA => exact rfl); (case kF => exact rfl); (case kK => assumption); (case k1 => k_asm); (case k2 => k_asm); (case k3 => k_asm); (case k4 => k_asm); (case k5 => k_asm); (case k6 => k_is); (case k7 => k_is); (case k8 => ktr_room); (case k9 => exact BindsTo.of_eq rfl); (case kB => exact rfl); (case kD => decide +kernel); (case c2 => exact rfl); (case c3 => exact rfl); (case c4 => exact rfl); k_whole; intro g' L' h' tk' cells' FG' F' N' Y' B' X' T' l1; (try k_lt l1); k_cells Y'; (try simp only [List.cons_append, List.nil_append] at N'); (try dsimp only); (try k_lift B'); (try k_fold))
  k_steps
  unfold Stop
  (k_here; kn_here; k_dflt (refine' nestDef_K ?d0Y1 ?k0Y1 ?a0Y1 ?_; (case d0Y1 => exact rfl); (case k0Y1 => exact rfl); (case a0Y1 => exact rfl)); (k_dflt (refine' nestA (pre := _ :: _ :: _ :: _ :: _ :: _) ?FY1 ?NY1 ?TY1 ?CY1 ?cdY1 ?TSY1 ?lnY1 ?colY1 ?qY1 ?poY1 ?clY1 ?_; (case FY1 => k_asm); (case NY1 => k_asm); (case TY1 => k_asm); (case CY1 => kn_code); (case cdY1 => exact rfl); (case TSY1 => assumption); (case lnY1 => exact rfl); (case colY1 => exact rfl); (case qY1 => rfl); (case poY1 => walk_at "mine preok"); (case clY1 => exact rfl); k_whole; intro f' c' tl' ct' dc' h' tk' F' TS' G' CF' N' l1; (try simp only [List.cons_append] at N' l1); (try k_lt l1))))
  k_steps
  · rename News _ _ _ _ => NN
    rename Fr _ _ _ _ => FF
    rename CodeFor _ _ _ => CF
    rename TabS _ => TT
    obtain ⟨fa, fo, da, rr, rfl, hfo, rfl, hrr, N2⟩ := cap3 NN
    have inner : ∀ (k : Nat) (dp un : Nat) (gd : Option (List Code)) (cn : Str) (cs : Scope) (a : Addr) (ccd : Value) (cl : List (Str × Addr)) (outer : List Env) (A₀ : Around) (h₀ : Heap) (L : Addr) (m : Str → Option Value) (s : Shared) (Q E : Value → Shared → Prop)
        (lo hi y : Int) (tlo thi ty : Tok) (vs : List Value) (ns : List Int),
        Below A₀ base outer h₀ → Fr h₀ L s.heap m → (Mine.hd.heap_1 w.params).In h₀ → Top p loose mean mg mb h₀ → cs.kind = .function → dp + k + 1 < recursionLimit → un + 4 * k + 8 < cLine →
        0 ≤ lo → lo < hi → hi - lo ≤ k → hi ≤ ns.length → ns.length ≤ 62 → 0 ≤ y → y < 2 ^ 62 → y < (2 ^ n.toNat) ^ (hi - lo).toNat → IntsAre vs ns →
        News h₀ L s.heap ((fa, fo) :: (da, W.listOf vs.toArray 0) :: rr) →
        (∀ h' tk' vs', Fr h₀ L h' m → News h₀ L h' ((fa, fo) :: (da, W.listOf vs'.toArray 0) :: rr) → IntsAre vs' (ns.take lo.toNat ++ digI (2 ^ n.toNat) (hi - lo).toNat y ++ ns.drop hi.toNat) → Q .none { s with heap := h', toks := tk' }) →
        wpAny (model PySem.Challenge.rw_pg0172_02.row.prog w) (ktrTop dp un gd cn cs L a ccd cl outer) (call (.ref fa) [.int y ty, .int lo tlo, .int hi thi]) Q E s := by
      subst hfo hrr
      intro k
      induction k with
      | zero => intros; omega
      | succ k ih =>
        intro dp un gd cn cs a ccd cl outer A₀ h₀ L m s Q E lo hi y tlo thi ty vs ns B F X T hk hd hu h0 h1 h2 h3 h4 h5 h7 h6 hI N ret
        have hCR : s.heap.CodeRec (.ref _) qA := CodeFor.rec CF N (by walk_at "mine sub")
        have e1 : (lo + hi).fdiv (2 ^ Int.toNat 1) = (lo + hi) / 2 := fdiv2 _
        have hs0 : 0 ≤ ((lo + hi).fdiv (2 ^ Int.toNat 1) - lo) * n := by rw [e1]; exact Int.mul_nonneg (by omega) (by omega)
        have hs1 : ((lo + hi).fdiv (2 ^ Int.toNat 1) - lo) * n ≤ 1000000 := by
          rw [e1]
          have : ((lo + hi) / 2 - lo) * n ≤ 62 * 64 := Int.mul_le_mul (by omega) (by omega) (by omega) (by omega)
          omega
        have hs2 : (y.fdiv (2 ^ (((lo + hi).fdiv (2 ^ Int.toNat 1) - lo) * n).toNat)).natAbs < 2 ^ 64 := fdiv_pow_lt (B := 2 ^ 64) h5 (by omega)
        refine wpAny_call ?_
        (refine' code_nest ?k1 ?k2 ?k3 ?k4 ?k5 ?kA ?kF ?kK ?k6 ?k7 ?k8 ?k9 ?kB ?_ ?c2 ?c3 ?c4 ?c5; (case kA => exact rfl); (case kF => exact rfl); (case kK => assumption); (case k1 => k_asm); (case k2 => k_asm); (case k3 => k_asm); (case k4 => k_asm); (case k5 => k_asm); (case k6 => k_mem); (case k7 => exact hCR); (case k8 => ktr_room); (case k9 => exact BindsTo.of_eq rfl); (case c5 => decide); (case kB => exact locs rfl); (case c2 => exact rfl); (case c3 => exact rfl); (case c4 => exact rfl); k_whole; intro g' L' h' FG' F' N' B' X' T'; (try dsimp only); (try k_lift B'); (try k_fold))
        k_steps
        · have e2 : hi.toNat = lo.toNat + 1 := by omega
          have e3 : (hi - lo).toNat = 1 := by omega
          rw [e3] at h6
          refine' ret _ _ _ ?r1 ?r2 ?_
          case r1 => assumption
          case r2 => assumption
          rw [e3, e2, set_one (by omega) h5 h6 |>.symm]
          exact ints_set hI _
        · have hb : (0 : Int) < 2 ^ n.toNat := Int.pow_pos (by decide)
          have hpp : (0 : Int) < (2 ^ n.toNat) ^ ((lo + hi) / 2 - lo).toNat := Int.pow_pos hb
          have eS : (2:Int) ^ (((lo + hi).fdiv (2 ^ Int.toNat 1) - lo) * n).toNat = (2 ^ n.toNat) ^ ((lo + hi) / 2 - lo).toNat := by rw [e1, shift_toNat (by omega) (by omega), Int.pow_mul]
          have ex : Builtin.bitXor y (y.fdiv (2 ^ (((lo + hi).fdiv (2 ^ Int.toNat 1) - lo) * n).toNat) * 2 ^ (((lo + hi).fdiv (2 ^ Int.toNat 1) - lo) * n).toNat) = y % (2 ^ n.toNat) ^ ((lo + hi) / 2 - lo).toNat := by rw [xor_low h5, eS]
          have ed : y.fdiv (2 ^ (((lo + hi).fdiv (2 ^ Int.toNat 1) - lo) * n).toNat) = y / (2 ^ n.toNat) ^ ((lo + hi) / 2 - lo).toNat := by rw [eS, Int.fdiv_eq_ediv_of_nonneg _ (Int.le_of_lt hpp)]
          have e4 : (hi - lo).toNat = ((lo + hi) / 2 - lo).toNat + (hi - (lo + hi) / 2).toNat := by omega
          rw [e4] at h6
          obtain ⟨g1, g2, g3, g4, g5, g6⟩ := halves hb h5 h6
          refine' ih _ _ _ _ _ _ _ _ _ _ _ _ _ _ _ _ lo ((lo + hi).fdiv (2 ^ Int.toNat 1)) _ _ _ _ vs ns ?B ?F ?X ?T ?hk ?hd ?hu ?h0 ?h1 ?h2 ?h3 ?h4 ?h5 ?h7 ?h6 ?hI ?N ?_
          case B => k_asm
          case F => k_asm
          case X => k_asm
          case T => k_asm
          case hk => rfl
          case hd => ktr_room
          case hu => ktr_units
          case h0 => exact h0
          case h1 => rw [e1]; omega
          case h2 => rw [e1]; omega
          case h3 => rw [e1]; omega
          case h4 => exact h4
          case h5 => rw [ex]; exact g1
          case h7 => rw [ex]; omega
          case h6 => rw [ex, e1]; exact g2
          case hI => exact hI
          case N => k_asm
          intro h2' tk2 vs2 F2 N2 I2
          rw [ex, e1] at I2
          k_steps
          · refine' ih _ _ _ _ _ _ _ _ _ _ _ _ _ _ _ _ ((lo + hi).fdiv (2 ^ Int.toNat 1)) hi _ _ _ _ vs2 _ ?B ?F ?X ?T ?hk ?hd ?hu ?h0 ?h1 ?h2 ?h3 ?h4 ?h5 ?h7 ?h6 ?hI ?N ?_
            case hI => exact I2
            case B => k_asm
            case F => k_asm
            case X => k_asm
            case T => k_asm
            case hk => rfl
            case hd => ktr_room
            case hu => ktr_units
            case h0 => rw [e1]; omega
            case h1 => rw [e1]; omega
            case h2 => rw [e1]; omega
            case h3 => simp only [List.length_append, List.length_take, List.length_drop, digI_length]; omega
            case h4 => simp only [List.length_append, List.length_take, List.length_drop, digI_length]; omega
            case h5 => rw [ed]; exact g3
            case h7 => rw [ed]; omega
            case h6 => rw [ed, e1]; exact g4
            case N => k_asm
            intro h3' tk3 vs3 F3 N3 I3
            rw [ed, e1] at I3
            k_steps
            refine' ret _ _ _ ?r1 ?r2 ?_
            case r1 => assumption
            case r2 => assumption
            have e5 : ((lo + hi) / 2).toNat = lo.toNat + ((lo + hi) / 2 - lo).toNat := by omega
            have e6 : hi.toNat = lo.toNat + ((lo + hi) / 2 - lo).toNat + (hi - (lo + hi) / 2).toNat := by omega
            rw [e5, e6, put_two hb (by omega)] at I3
            rw [e4, e6]
            exact I3
    have eN : ndig x n = (((Builtin.Int.intBits x : Int) + n - 1).fdiv n).toNat := rfl
    have hz := (show (List.replicate (((Builtin.Int.intBits x : Int) + n - 1).fdiv n).toNat [(0 : Int)]).flatten.length = (((Builtin.Int.intBits x : Int) + n - 1).fdiv n).toNat by rw [KM.len_rep]; simp)
    have hz2 : ndig x n ≠ 0 := fun e => by
      rw [e, Int.pow_zero] at hK2
      omega
    subst hrr
    refine' inner 62 _ _ _ _ _ _ _ _ _ _ _ _ _ _ _ _ 0 _ _ _ _ _ _ (List.replicate (((Builtin.Int.intBits x : Int) + n - 1).fdiv n).toNat [(0 : Int)]).flatten ?B ?F ?X ?T ?hk ?hd ?hu ?h0 ?h1 ?h2 ?h3 ?h4 ?h5 ?h7 ?h6 ?hI ?N ?_
    case hI => assumption
    case B => k_asm
    case F => k_asm
    case X => k_asm
    case T => k_asm
    case hk => rfl
    case hd => ktr_room
    case hu => ktr_units
    case h0 => omega
    case h1 => omega
    case h2 => omega
    case h3 => omega
    case h4 => omega
    case h5 => exact hx
    case h7 => exact hx2
    case h6 =>
      refine Int.lt_of_lt_of_le hK2 (Int.le_of_eq ?_)
      congr 1
      omega
    case N => k_asm
    intro h3' tk3 vs3 F3 N3 I3
    k_steps
    refine' ret _ _ _ _ _ ?r1 ?r2 ?rg ?r3 ?_
    case r1 => assumption
    case r2 => assumption
    case rg => walk_at "mine grow"
    case r3 => exact News.sub (by assumption) (by walk_at "mine sub2")
    exact fin_put hz (by omega) I3
  · have hx0 : x = 0 := by omega
    have eK : (((Builtin.Int.intBits x : Int) + n - 1).fdiv n).toNat = 0 := by rw [hx0, ndig_zero hn]; rfl
    have eK2 : ndig x n = 0 := eK
    refine' ret _ _ _ _ _ ?r1 ?r2 ?rg ?r3 ?_
    case r1 => assumption
    case r2 => assumption
    case rg => walk_at "mine grow"
    case r3 => exact News.sub (by assumption) (by walk_at "mine sub2")
    rw [eK, eK2]
    exact .nil
end
end
section
open PySem PySem.W PyProof.Rows
set_option maxRecDepth 100000
set_option maxHeartbeats 8000000
theorem fill1 : PySem.Challenge.rw_pg0172_02 = PySem.Challenge.rw_pg0172_02 ∧ Mine.hd.heap_1 = Mine.hd.heap_1 := by
  w_top off
  k_fill
  exact ⟨rfl, rfl⟩

section
variable {w : World} {p : Program} {loose : List Str} {mean : ExcName → Option Value} {mg mb : Str → Option Value}
  {dp un : Nat} {gd : Option (List Code)} {cn : Str} {cs : Scope} {a : Addr} {ccd : Value} {cl : List (Str × Addr)} {outer : List Env} {A₀ : Around} {base h₀ : Heap} {L : Addr} {m : Str → Option Value} {s : Shared} {Q E : Value → Shared → Prop} {news : List (Addr × Obj)}


local macro_rules | `(tactic| walk_at "exec FunctionDef") => `(tactic| refine Stop.to ?_)

theorem c_digits2int {pre tl : List (Addr × Obj)} {l ep : Nat} {vs : List Value} {ns : List Int} (B : Below A₀ base outer h₀) (F : Fr h₀ L s.heap m) (X : (Mine.hd.heap_1 w.params).In h₀) (N : News h₀ L s.heap ((l, W.listOf vs.toArray ep) :: (pre ++ tl))) (T : Top p loose mean mg mb h₀) (hk : cs.kind = .function)
    (C2 : CodeHd base 48 44) (TS : TabS tl) (hpre : PreOk pre) (hI : IntsAre vs ns)
    (hd : dp + 100 < recursionLimit) (hu : un + 400 < cLine) (n : Int) (tn : Tok) (hn : 0 < n) (hn2 : n < 64) (hlen : ns.length ≤ 62) (hpos : ∀ d ∈ ns, 0 ≤ d) (hval : undig (2 ^ n.toNat) ns < 2 ^ 62)
    (ret : ∀ (h' : Heap) (tk' t : Nat) (tl' : List (Addr × Obj)), Fr h₀ L h' m → TabS tl' → Grow pre tl tl' → News h₀ L h' ((l, W.listOf vs.toArray ep) :: (pre ++ tl')) → Q (.int (undig (2 ^ n.toNat) ns) t) { s with heap := h', toks := tk' }) :
    wpAny (model PySem.Challenge.rw_pg0172_02.row.prog w) (ktrTop dp un gd cn cs L a ccd cl outer) (call (.ref 49) [.ref l, .int n tn]) Q E s := by
  refine wpAny_call ?_
  k_dflt (refine' code_defC ?k1 ?k2 ?k3 ?k4 ?k5 ?kA ?kF ?kK ?k6 ?k7 ?k8 ?k9 ?kB ?kD ?_ ?c2 ?c3 ?c4; (case kA => exact rfl); (case kF => exact rfl); (case kK => assumption); (case k1 => k_asm); (case k2 => k_asm); (case k3 => k_asm); (case k4 => k_asm); (case k5 => k_asm); (case k6 => k_is); (case k7 => k_is); (case k8 => ktr_room); (case k9 => exact BindsTo.of_eq rfl); (case kB => exact rfl); (case kD => decide +kernel); (case c2 => exact rfl); (case c3 => exact rfl); (case c4 => exact rfl); k_whole; intro g' L' h' tk' cells' FG' F' N' Y' B' X' T' l1; (have lB : ∀ q ∈ pre ++ tl, q.1 < L' := fun q hq => l1 q (.tail _ hq)); (try k_lt l1); k_cells Y'; (try simp only [List.cons_append, List.nil_append] at N'); (try dsimp only); (try k_lift B'); (try k_fold))
  k_steps
  unfold Stop
  (k_here; kn_here; k_dflt (refine' nestDef_K ?d0Y1 ?k0Y1 ?a0Y1 ?_; (case d0Y1 => exact rfl); (case k0Y1 => exact rfl); (case a0Y1 => exact rfl)); (k_dflt (refine' nestB (pre := _ :: _ :: _ :: _ :: _) ?FY1 ?NY1 ?TY1 ?CY1 ?cdY1 ?TSY1 ?lnY1 ?colY1 ?qY1 ?poY1 ?clY1 ?_; (case FY1 => k_asm); (case NY1 => k_asm); (case TY1 => k_asm); (case CY1 => kn_code); (case cdY1 => exact rfl); (case TSY1 => assumption); (case lnY1 => exact rfl); (case colY1 => exact rfl); (case qY1 => exact rfl); (case poY1 => walk_at "mine preok"); (case clY1 => exact rfl); k_whole; intro f' c' tl' ct' dc' h' tk' F' TS' G' CF' N' l1; (try simp only [List.cons_append] at N' l1); (try k_lt l1))))
  k_steps
  · rename News _ _ _ _ => NN
    rename Fr _ _ _ _ => FF
    rename CodeFor _ _ _ => CF
    rename TabS _ => TT
    obtain ⟨fa, fo, rr, rfl, hfo, hrr, N2⟩ := cap1 NN
    have hb : (0 : Int) < 2 ^ n.toNat := Int.pow_pos (by decide)
    have inner : ∀ (k : Nat) (dp un : Nat) (gd : Option (List Code)) (cn : Str) (cs : Scope) (a : Addr) (ccd : Value) (cl : List (Str × Addr)) (outer : List Env) (A₀ : Around) (h₀ : Heap) (L : Addr) (m : Str → Option Value) (s : Shared) (Q E : Value → Shared → Prop)
        (lo hi : Int) (tlo thi : Tok),
        Below A₀ base outer h₀ → Fr h₀ L s.heap m → (Mine.hd.heap_1 w.params).In h₀ → Top p loose mean mg mb h₀ → cs.kind = .function → dp + k + 1 < recursionLimit → un + 4 * k + 8 < cLine →
        0 ≤ lo → lo < hi → hi - lo ≤ k → hi ≤ ns.length → undig (2 ^ n.toNat) (slice ns lo.toNat hi.toNat) < 2 ^ 62 →
        News h₀ L s.heap ((fa, fo) :: rr) →
        (∀ h' tk' t, Fr h₀ L h' m → News h₀ L h' ((fa, fo) :: rr) → Q (.int (undig (2 ^ n.toNat) (slice ns lo.toNat hi.toNat)) t) { s with heap := h', toks := tk' }) →
        wpAny (model PySem.Challenge.rw_pg0172_02.row.prog w) (ktrTop dp un gd cn cs L a ccd cl outer) (call (.ref fa) [.int lo tlo, .int hi thi]) Q E s := by
      subst hfo hrr
      intro k
      induction k with
      | zero => intros; omega
      | succ k ih =>
        intro dp un gd cn cs a ccd cl outer A₀ h₀ L m s Q E lo hi tlo thi B F X T hk hd hu h0 h1 h2 h3 h4 N ret
        have e1 : (lo + hi).fdiv (2 ^ Int.toNat 1) = (lo + hi) / 2 := fdiv2 _
        have hs0 : 0 ≤ ((lo + hi).fdiv (2 ^ Int.toNat 1) - lo) * n := by rw [e1]; exact Int.mul_nonneg (by omega) (by omega)
        have hs1 : ((lo + hi).fdiv (2 ^ Int.toNat 1) - lo) * n ≤ 1000000 := by
          rw [e1]
          have : ((lo + hi) / 2 - lo) * n ≤ 62 * 64 := Int.mul_le_mul (by omega) (by omega) (by omega) (by omega)
          omega
        have hCR : s.heap.CodeRec (.ref _) qB := CodeFor.rec CF N (by walk_at "mine sub")
        refine wpAny_call ?_
        (refine' code_nest ?k1 ?k2 ?k3 ?k4 ?k5 ?kA ?kF ?kK ?k6 ?k7 ?k8 ?k9 ?kB ?_ ?c2 ?c3 ?c4 ?c5; (case kA => exact rfl); (case kF => exact rfl); (case kK => assumption); (case k1 => k_asm); (case k2 => k_asm); (case k3 => k_asm); (case k4 => k_asm); (case k5 => k_asm); (case k6 => k_mem); (case k7 => exact hCR); (case k8 => ktr_room); (case k9 => exact BindsTo.of_eq rfl); (case c5 => decide); (case kB => exact locs rfl); (case c2 => exact rfl); (case c3 => exact rfl); (case c4 => exact rfl); k_whole; intro g' L' h' FG' F' N' B' X' T'; (try dsimp only); (try k_lift B'); (try k_fold))
        k_steps
        · have e2 : hi.toNat = lo.toNat + 1 := by omega
          have e3 : undig (2 ^ n.toNat) (slice ns lo.toNat hi.toNat) = ns.getD lo.toNat 0 := by
            rw [e2, slice_one (by omega)]
            simp only [undig]
            omega
          rw [e3] at ret
          exact ret _ _ _ (by assumption) (by assumption)
        · obtain ⟨p1, p2, p3, p4, p5⟩ := undig_parts hb hpos (lo := lo.toNat) (mid := ((lo + hi) / 2).toNat) (hi := hi.toNat) (by omega) (by omega) (by omega)
          refine' ih _ _ _ _ _ _ _ _ _ _ _ _ _ _ _ _ ((lo + hi).fdiv (2 ^ Int.toNat 1)) hi _ _ ?B ?F ?X ?T ?hk ?hd ?hu ?h0 ?h1 ?h2 ?h3 ?h4 ?N ?_
          case B => k_asm
          case F => k_asm
          case X => k_asm
          case T => k_asm
          case hk => rfl
          case hd => ktr_room
          case hu => ktr_units
          case h0 => rw [e1]; omega
          case h1 => rw [e1]; omega
          case h2 => rw [e1]; omega
          case h3 => exact h3
          case h4 => rw [e1]; omega
          case N => k_asm
          intro h2' tk2 t2 F2 N2
          have hs2 : (undig (2 ^ n.toNat) (slice ns ((lo + hi).fdiv (2 ^ Int.toNat 1)).toNat hi.toNat)).natAbs < 2 ^ 64 := by rw [e1]; omega
          k_steps
          refine' ih _ _ _ _ _ _ _ _ _ _ _ _ _ _ _ _ lo ((lo + hi).fdiv (2 ^ Int.toNat 1)) _ _ ?B ?F ?X ?T ?hk ?hd ?hu ?h0 ?h1 ?h2 ?h3 ?h4 ?N ?_
          case B => k_asm
          case F => k_asm
          case X => k_asm
          case T => k_asm
          case hk => rfl
          case hd => ktr_room
          case hu => ktr_units
          case h0 => exact h0
          case h1 => rw [e1]; omega
          case h2 => rw [e1]; omega
          case h3 => rw [e1]; omega
          case h4 => rw [e1]; omega
          case N => k_asm
          intro h3' tk3 t3 F3 N3
          k_steps
          have eS : (2:Int) ^ (((lo + hi).fdiv (2 ^ Int.toNat 1) - lo) * n).toNat = (2 ^ n.toNat) ^ (((lo + hi) / 2).toNat - lo.toNat) := by
            rw [e1, shift_toNat (by omega) (by omega), Int.pow_mul]
            congr 1
            omega
          have e5 : undig (2 ^ n.toNat) (slice ns ((lo + hi).fdiv (2 ^ Int.toNat 1)).toNat hi.toNat) * 2 ^ (((lo + hi).fdiv (2 ^ Int.toNat 1) - lo) * n).toNat + undig (2 ^ n.toNat) (slice ns lo.toNat ((lo + hi).fdiv (2 ^ Int.toNat 1)).toNat) = undig (2 ^ n.toNat) (slice ns lo.toNat hi.toNat) := by
            rw [eS, e1, p1, Int.mul_comm]
            omega
          rw [e5]
          exact ret _ _ _ (by assumption) (by assumption)
    have h0 : ns ≠ [] := by
      intro e
      subst e
      simp_all
    have h00 : 0 < ns.length := List.length_pos_iff.mpr h0
    subst hrr
    refine' inner 62 _ _ _ _ _ _ _ _ _ _ _ _ _ _ _ _ 0 _ _ _ ?B ?F ?X ?T ?hk ?hd ?hu ?h0 ?h1 ?h2 ?h3 ?h4 ?N ?_
    case B => k_asm
    case F => k_asm
    case X => k_asm
    case T => k_asm
    case hk => rfl
    case hd => ktr_room
    case hu => ktr_units
    case h0 => omega
    case h1 => omega
    case h2 => omega
    case h3 => omega
    case h4 =>
      show undig (2 ^ n.toNat) (slice ns 0 (ns.length : Int).toNat) < 2 ^ 62
      rw [Int.toNat_natCast, slice_all]
      exact hval
    case N => k_asm
    intro h3' tk3 t3 F3 N3
    have e9 : undig (2 ^ n.toNat) (slice ns (0 : Int).toNat (ns.length : Int).toNat) = undig (2 ^ n.toNat) ns := by
      show undig (2 ^ n.toNat) (slice ns 0 (ns.length : Int).toNat) = _
      rw [Int.toNat_natCast, slice_all]
    rw [e9]
    k_steps
    refine' ret _ _ _ _ ?r1 ?r2 ?rg ?r3
    case r1 => assumption
    case r2 => assumption
    case rg => walk_at "mine grow"
    case r3 => exact News.sub (by assumption) (by walk_at "mine sub2")
  · have e0 : ns = [] := by
      cases ns with
      | nil => rfl
      | cons x r => simp_all
    subst e0
    refine' ret _ _ _ _ ?r1 ?r2 ?rg ?r3
    case r1 => assumption
    case r2 => assumption
    case rg => walk_at "mine grow"
    case r3 => exact News.sub (by assumption) (by walk_at "mine sub2")
end
end
section
open PySem PySem.W PyProof.Rows
set_option maxRecDepth 100000
set_option maxHeartbeats 8000000
theorem fill3 : PySem.Challenge.rw_pg0172_02 = PySem.Challenge.rw_pg0172_02 ∧ Mine.hd.heap_1 = Mine.hd.heap_1 := by
  w_top off
  k_fill
  exact ⟨rfl, rfl⟩

section
variable {w : World} {p : Program} {loose : List Str} {mean : ExcName → Option Value} {mg mb : Str → Option Value}
  {dp un : Nat} {gd : Option (List Code)} {cn : Str} {cs : Scope} {a : Addr} {ccd : Value} {cl : List (Str × Addr)} {outer : List Env} {A₀ : Around} {base h₀ : Heap} {L : Addr} {m : Str → Option Value} {s : Shared} {Q E : Value → Shared → Prop} {news : List (Addr × Obj)}

local macro_rules | `(tactic| walk_at "pyIter ref") => `(tactic| (refine Stop.to ?_))
local macro_rules | `(tactic| walk_at "call ref") => `(tactic| (k_here; k_dflt (refine' c_div2n1n _ _ _ _ _ _ _ _ _ _ _ _ _ _ _ _ _ ?_; walk_at "cc"; walk_at "il")))
local macro_rules | `(tactic| walk_at "call ref") => `(tactic| (k_here; k_dflt (refine' c_int2digits _ _ _ _ _ _ _ _ _ _ _ _ _ _ _ _ _ _ _ ?_; walk_at "cc"; intros)))

theorem c_divmod_pos {pre tl : List (Addr × Obj)} (B : Below A₀ base outer h₀) (F : Fr h₀ L s.heap m) (X : (Mine.hd.heap_1 w.params).In h₀) (N : News h₀ L s.heap (pre ++ tl)) (T : Top p loose mean mg mb h₀) (hk : cs.kind = .function)
    (C1 : CodeHd base 41 37) (C2 : CodeHd base 48 44) (TS : TabS tl) (hpre : PreOk pre)
    (hd : dp + 150 < recursionLimit) (hu : un + 500 < cLine) (x y : Int) (tx ty : Tok) (hx : 0 ≤ x) (hx2 : x < 2 ^ 62) (hy : 0 < y) (hy2 : y < 1073741824)
    (ret : ∀ (h' : Heap) (tk' t1 t2 : Nat) (r : Addr) (tl' : List (Addr × Obj)), Fr h₀ L h' m → TabS tl' → Grow pre tl tl' → News h₀ L h' ((r, { cls := .type "tuple", data := .seq #[.int (x / y) t1, .int (x % y) t2] }) :: (pre ++ tl')) → (∀ p ∈ pre ++ tl', p.1 < r) → Q (.ref r) { s with heap := h', toks := tk' }) :
    wpAny (model PySem.Challenge.rw_pg0172_02.row.prog w) (ktrTop dp un gd cn cs L a ccd cl outer) (call (.ref 56) [.int x tx, .int y ty]) Q E s := by
  have hn : (0 : Int) < (Builtin.Int.intBits y : Int) := by have := bits_pos hy; omega
  have hn2 : (Builtin.Int.intBits y : Int) < 64 := by have := intBits_le (k := 30) (Int.le_of_lt hy) (by omega); omega
  have hn3 : (Builtin.Int.intBits y : Int) ≤ 30 := by have := intBits_le (k := 30) (Int.le_of_lt hy) (by omega); omega
  obtain ⟨hK0, hK1, hK2⟩ := ndig_facts hx hx2 hn
  refine wpAny_call ?_
  k_dflt cell_enter
  k_steps
  rename News _ _ _ _ => NN
  rename Fr _ _ _ _ => FF
  rename TabS _ => TT
  rename IntsAre _ _ => II
  obtain ⟨avs, rfl, II⟩ := capI II
  obtain ⟨tla, rfl, TT⟩ := capT TT
  obtain ⟨m0, hm0, F0⟩ := capM FF
  unfold Stop
  obtain ⟨da, o1, qa, r1, rfl, ho1, rfl, hr1, N1⟩ := cap3 NN
  subst ho1
  obtain ⟨aa, ao, r2, rfl, hao, hr2, N2⟩ := cap1 (News.sub N1 (l' := r1) (fun p hp => .tail _ (.tail _ hp)) |> (hr1 ▸ ·))
  subst hr1
  clear N2 hao hr2 ao r2 NN FF
  have hB : (0 : Int) < 2 ^ (Builtin.Int.intBits y : Int).toNat := Int.pow_pos (by decide)
  refine iterRev (I := da) (ax := aa) (lo := W.listOf avs.toArray 0) (vs := avs) (fun i m' n' => ∃ (r : Int) (t : Tok) (uq ua : Option Value) (qvs : List Value) (qs : List Int) (ep : Nat),
      m' = (fun z => if z = Str.ofString "r" then some (.int r t) else if z = Str.ofString "q_digit" then uq else if z = Str.ofString "a_digit" then ua else m0 z) ∧
      n' = (qa, W.listOf qvs.toArray ep) :: (aa, W.listOf avs.toArray 0) :: (pre ++ tla) ∧ IntsAre qvs qs ∧
      DivInv y (2 ^ (Builtin.Int.intBits y : Int).toNat) (digI (2 ^ (Builtin.Int.intBits y : Int).toNat) (ndig x (Builtin.Int.intBits y)) x) i r qs) rfl F0 N1 ?hne ?hm rfl rfl ?h0 ?hJ ?turn ?done
  case hne => k_all
  case hm => k_mem
  case h0 =>
    subst hm0
    refine' ⟨0, _, _, _, [], [], 0, map3 _ (Str.ofString "r") (Str.ofString "q_digit") (Str.ofString "a_digit") rfl, rfl, .nil, DivInv.start hy⟩
  case hJ =>
    rintro i m' n' ⟨r, t, uq, ua, qvs, qs, ep, rfl, rfl, _, _⟩
    k_mem
  case turn =>
    rintro i v m₁ news₁ it h tk hi hv ⟨r, t, uq, ua, qvs, qs, ep, rfl, rfl, hqs, hinv⟩ hit hne F₁ N₁
    subst hm0
    obtain ⟨td, hdl, rfl⟩ := ints_at (ints_rev II) hv
    obtain ⟨hst, hs0, hs1⟩ := hinv.step hy hB (by rw [List.length_reverse] at hdl; exact hdl) (digI_nonneg hB _ _)
    have hne2 := neAll_of hne
    simp only [NeAll, and_true] at hne2
    have hql : qvs.length ≤ 1000000 := by
      have h1 := hqs.length
      have h2 := hinv.len
      have h3 := II.length
      rw [digI_length] at h3
      have h4 : ndig x (Builtin.Int.intBits y) ≤ 62 := by unfold ndig; omega
      omega
    have hr0 := hinv.r0
    have hr1 := hinv.r1
    have hsh : (Builtin.Int.intBits (r * 2 ^ (Builtin.Int.intBits y : Int).toNat + (digI (2 ^ (Builtin.Int.intBits y : Int).toNat) (ndig x (Builtin.Int.intBits y)) x).reverse.getD i 0) : Int) - (Builtin.Int.intBits y : Int) ≤ 4000 := by
      have h1 : (2 : Int) ^ (Builtin.Int.intBits y : Int).toNat ≤ 2 ^ 30 := pow2_mono (by omega)
      have h2 : y * 2 ^ (Builtin.Int.intBits y : Int).toNat ≤ 1073741824 * 2 ^ 30 := Int.mul_le_mul (by omega) h1 (Int.le_of_lt hB) (by omega)
      have := intBits_le (k := 64) hs0 (by omega)
      omega
    k_steps
    refine' TurnEnd.intro ?tF ?tN ?tn ?tJ
    case tF => assumption
    case tN => exact News.drop (by assumption)
    case tJ =>
      refine' ⟨_, _, _, _, _, _, _, ?jm, ?jn, ?ji, ?jd⟩
      case jd => exact hst
      case jn => rfl
      case ji => exact IntsAre.append hqs (.cons _ _ .nil)
      case jm => exact map3_up (a := Str.ofString "r") (b := Str.ofString "q_digit") (c := Str.ofString "a_digit")
    case tn => k_all
  case done =>
    rintro h' tk m' news' F₁ N₁ ⟨r, t, uq, ua, qvs, qs, ep, rfl, rfl, hqs, hinv⟩
    subst hm0
    have eL : avs.length = ndig x (Builtin.Int.intBits y) := by rw [II.length, digI_length]
    rw [eL] at hinv
    obtain ⟨d1, d2, d3, d4⟩ := hinv.last hy hB hx hK2
    have hln := hinv.len
    clear hinv
    subst d2
    have hql : qvs.length ≤ 1000000 := by
      have h1 := hqs.length
      have h2 := hln
      have h4 : ndig x (Builtin.Int.intBits y) ≤ 62 := by unfold ndig; omega
      omega
    k_steps
    k_dflt (refine' c_digits2int (pre := _ :: pre) (ns := qs.reverse) ?B ?F ?X ?N ?T ?hk ?C2 ?TS ?po ?hI ?hd ?hu _ _ ?hn ?hn2 ?hl ?hp ?hv ?_)
    case N => k_asm
    case B => k_asm
    case F => k_asm
    case X => k_asm
    case T => k_asm
    case hk => rfl
    case C2 => assumption
    case TS => assumption
    case po => walk_at "mine preok"
    case hI => exact ints_rev hqs
    case hd => ktr_room
    case hu => ktr_units
    case hn => exact hn
    case hn2 => exact hn2
    case hl =>
      have h2 := hln
      have h4 : ndig x (Builtin.Int.intBits y) ≤ 62 := by unfold ndig; omega
      rw [List.length_reverse]
      omega
    case hp => exact d3
    case hv => exact Int.lt_of_le_of_lt d4 hx2
    intro h2' tk2 t2 tl2 F2 TS2 G2 N2
    rw [d1]
    k_steps
    refine' ret _ _ _ _ _ _ ?r1 ?r2 ?rg ?r3 ?r4
    case r1 => assumption
    case r2 => assumption
    case rg => walk_at "mine grow"
    case r3 => exact News.sub (by assumption) (by walk_at "mine sub2")
    case r4 => exact ltSubs (by assumption) (by walk_at "mine sub2")
end
end
section
open PySem PySem.W PyProof.Rows
set_option maxRecDepth 100000
set_option maxHeartbeats 8000000
theorem fill4 : PySem.Challenge.rw_pg0172_02 = PySem.Challenge.rw_pg0172_02 ∧ Mine.hd.heap_1 = Mine.hd.heap_1 := by
  w_top off
  k_fill
  exact ⟨rfl, rfl⟩

section
variable {w : World} {p : Program} {loose : List Str} {mean : ExcName → Option Value} {mg mb : Str → Option Value}
  {dp un : Nat} {gd : Option (List Code)} {cn : Str} {cs : Scope} {a : Addr} {ccd : Value} {cl : List (Str × Addr)} {outer : List Env} {A₀ : Around} {base h₀ : Heap} {L : Addr} {m : Str → Option Value} {s : Shared} {Q E : Value → Shared → Prop} {news : List (Addr × Obj)}
local macro_rules | `(tactic| walk_at "call ref") => `(tactic| (k_here; k_dflt (refine' c_divmod_pos _ _ _ _ _ _ _ _ _ _ _ _ _ _ _ _ _ _ _ _ ?_; walk_at "cc"; walk_at "il")))
local macro_rules | `(tactic| walk_at "pyIter ref") => `(tactic| (refine Stop.to ?_))
theorem c_idP {pre tl : List (Addr × Obj)} (B : Below A₀ base outer h₀) (F : Fr h₀ L s.heap m) (X : (Mine.hd.heap_1 w.params).In h₀) (N : News h₀ L s.heap (pre ++ tl)) (T : Top p loose mean mg mb h₀) (hk : cs.kind = .function)
    (C1 : CodeHd base 41 37) (C2 : CodeHd base 48 44) (TS : TabS tl) (hpre : PreOk pre)
    (hd : dp + 160 < recursionLimit) (hu : un + 800 < cLine) (x y : Int) (tx ty : Tok) (hx : 0 ≤ x) (hx2 : x < 2 ^ 62) (hy : 0 < y) (hy2 : y < 1073741824)
    (ret : ∀ (h' : Heap) (tk' t1 t2 : Nat) (r : Addr) (tl' : List (Addr × Obj)), Fr h₀ L h' m → TabS tl' → Grow pre tl tl' → News h₀ L h' ((r, { cls := .type "tuple", data := .seq #[.int (x / y) t1, .int (x % y) t2] }) :: (pre ++ tl')) → (∀ p ∈ pre ++ tl', p.1 < r) → Q (.ref r) { s with heap := h', toks := tk' }) :
    wpAny (model PySem.Challenge.rw_pg0172_02.row.prog w) (ktrTop dp un gd cn cs L a ccd cl outer) (call (.ref 63) [.int x tx, .int y ty]) Q E s := by
  refine wpAny_call ?_
  k_dflt cell_enter
  k_steps
  · exfalso; omega
  · exact ret _ _ _ _ _ _ (by assumption) (by assumption) (by walk_at "mine grow") (by assumption) (by assumption)
local macro_rules | `(tactic| walk_at "call ref") => `(tactic| (k_here; k_dflt (refine' c_idP _ _ _ _ _ _ _ _ _ _ _ _ _ _ _ _ _ _ _ _ ?_; walk_at "cc"; walk_at "il")))
theorem c_idQ {pre tl : List (Addr × Obj)} (B : Below A₀ base outer h₀) (F : Fr h₀ L s.heap m) (X : (Mine.hd.heap_1 w.params).In h₀) (N : News h₀ L s.heap (pre ++ tl)) (T : Top p loose mean mg mb h₀) (hk : cs.kind = .function)
    (C1 : CodeHd base 41 37) (C2 : CodeHd base 48 44) (TS : TabS tl) (hpre : PreOk pre)
    (hd : dp + 170 < recursionLimit) (hu : un + 850 < cLine) (x y : Int) (tx ty : Tok) (hx : -2 ^ 62 < x) (hx2 : x < 2 ^ 62) (hy : 0 < y) (hy2 : y < 1073741824)
    (ret : ∀ (h' : Heap) (tk' t1 t2 : Nat) (r : Addr) (tl' : List (Addr × Obj)), Fr h₀ L h' m → TabS tl' → Grow pre tl tl' → News h₀ L h' ((r, { cls := .type "tuple", data := .seq #[.int (x.fdiv y) t1, .int (x.fmod y) t2] }) :: (pre ++ tl')) → (∀ p ∈ pre ++ tl', p.1 < r) → Q (.ref r) { s with heap := h', toks := tk' }) :
    wpAny (model PySem.Challenge.rw_pg0172_02.row.prog w) (ktrTop dp un gd cn cs L a ccd cl outer) (call (.ref 63) [.int x tx, .int y ty]) Q E s := by
  have hb : Builtin.bitNot x = -x - 1 := rfl
  refine wpAny_call ?_
  k_dflt cell_enter
  k_steps
  · exfalso; omega
  · obtain ⟨e1, e2⟩ := fd_not x hy
    rw [← e1, ← e2] at ret
    refine' ret _ _ _ _ _ _ ?r1 ?r2 ?rg ?r3 ?r4
    case r1 => assumption
    case r2 => assumption
    case rg => walk_at "mine grow"
    case r3 => exact News.sub (by assumption) (by walk_at "mine sub2")
    case r4 => exact ltSubs (by assumption) (by walk_at "mine sub2")
  · obtain ⟨e1, e2⟩ := fd_pos x hy
    rw [← e1, ← e2] at ret
    exact ret _ _ _ _ _ _ (by assumption) (by assumption) (by walk_at "mine grow") (by assumption) (by assumption)
local macro_rules | `(tactic| walk_at "call ref") => `(tactic| (k_here; k_dflt (refine' c_idQ _ _ _ _ _ _ _ _ _ _ _ _ _ _ _ _ _ _ _ _ ?_; walk_at "cc"; walk_at "il")))
theorem c_int_divmod {pre tl : List (Addr × Obj)} (B : Below A₀ base outer h₀) (F : Fr h₀ L s.heap m) (X : (Mine.hd.heap_1 w.params).In h₀) (N : News h₀ L s.heap (pre ++ tl)) (T : Top p loose mean mg mb h₀) (hk : cs.kind = .function)
    (C1 : CodeHd base 41 37) (C2 : CodeHd base 48 44) (TS : TabS tl) (hpre : PreOk pre)
    (hd : dp + 180 < recursionLimit) (hu : un + 900 < cLine) (x y : Int) (tx ty : Tok) (hx : -2 ^ 62 < x) (hx2 : x < 2 ^ 62) (hy : y ≠ 0) (hy1 : -1073741824 < y) (hy2 : y < 1073741824)
    (ret : ∀ (h' : Heap) (tk' t1 t2 : Nat) (r : Addr) (tl' : List (Addr × Obj)), Fr h₀ L h' m → TabS tl' → Grow pre tl tl' → News h₀ L h' ((r, { cls := .type "tuple", data := .seq #[.int (x.fdiv y) t1, .int (x.fmod y) t2] }) :: (pre ++ tl')) → (∀ p ∈ pre ++ tl', p.1 < r) → Q (.ref r) { s with heap := h', toks := tk' }) :
    wpAny (model PySem.Challenge.rw_pg0172_02.row.prog w) (ktrTop dp un gd cn cs L a ccd cl outer) (call (.ref 63) [.int x tx, .int y ty]) Q E s := by
  rcases Int.lt_or_gt_of_ne hy with hneg | hpos
  case inr => exact c_idQ B F X N T hk C1 C2 TS hpre (by omega) (by omega) x y tx ty hx hx2 hpos hy2 ret
  refine wpAny_call ?_
  k_dflt cell_enter
  k_steps
  · exfalso; omega
  · obtain ⟨e1, e2⟩ := fd_neg x y
    rw [← e1, ← e2] at ret
    refine' ret _ _ _ _ _ _ ?r1 ?r2 ?rg ?r3 ?r4
    case r1 => assumption
    case r2 => assumption
    case rg => walk_at "mine grow"
    case r3 => exact News.sub (by assumption) (by walk_at "mine sub2")
    case r4 => exact ltSubs (by assumption) (by walk_at "mine sub2")
end
end
section
open PySem PySem.W PyProof.Rows
set_option maxRecDepth 100000
set_option maxHeartbeats 8000000
theorem fill5 : PySem.Challenge.rw_pg0172_02 = PySem.Challenge.rw_pg0172_02 ∧ Mine.hd.heap_1 = Mine.hd.heap_1 := by
  w_top off
  k_fill
  exact ⟨rfl, rfl⟩

section
variable {w : World} {p : Program} {loose : List Str} {mean : ExcName → Option Value} {mg mb : Str → Option Value}
  {dp un : Nat} {gd : Option (List Code)} {cn : Str} {cs : Scope} {a : Addr} {ccd : Value} {cl : List (Str × Addr)} {outer : List Env} {A₀ : Around} {base h₀ : Heap} {L : Addr} {m : Str → Option Value} {s : Shared} {Q E : Value → Shared → Prop} {news : List (Addr × Obj)}

local macro_rules | `(tactic| walk_at "truthy ref") => `(tactic| (k_here; k_dflt (refine' truthyCons _ _ _ ?_; walk_at "cc"); intros))
local macro_rules | `(tactic| walk_at "call type:set cons nil") => `(tactic| (k_here; k_dflt (refine' newSetStr_N _ _ _ _ ?_; walk_at "cc"); walk_at "il"))
theorem c_readerM {lst ep : Nat} {mod : Str} {tm : Tok} (B : Below A₀ base outer h₀) (F : Fr h₀ L s.heap m) (X : (Mine.hd.heap_1 w.params).In h₀) (N : News h₀ L s.heap ((lst, W.listOf [Value.str mod tm].toArray ep) :: news)) (T : Top p loose mean mg mb h₀) (hk : cs.kind = .function)
    (hd : dp + 20 < recursionLimit) (hu : un + 100 < cLine) (hx : mod.length ≤ 100000)
    (ret : ∀ (h' : Heap) (tk' t t1 t2 t3 n : Nat) (x dx S l ig : Addr) (io : Obj), Fr h₀ L h' m → News h₀ L h' ((ig, io) :: rdObjs w.params t1 t2 t3 x dx S l ig n (set1 (ledOf w) ((PySem.strKind PySem.Challenge.rw_pg0172_02.row.prog w).hash mod) (.str mod tm)) (W.listOf #[] 0) ((lst, W.listOf [Value.str mod tm].toArray ep) :: news)) →
      io.IsDictOf (PySem.strKind PySem.Challenge.rw_pg0172_02.row.prog w) [(Str.ofString "<string>", .int 1 t)] → (ig == sysModules) = false → (∀ p ∈ (lst, W.listOf [Value.str mod tm].toArray ep) :: news, p.1 < dx) → @LT.lt Nat _ dx x → @LT.lt Nat _ x S → @LT.lt Nat _ S l → @LT.lt Nat _ l ig → Q (.ref x) { s with heap := h', toks := tk' }) :
    wpAny (model PySem.Challenge.rw_pg0172_02.row.prog w) (ktrTop dp un gd cn cs L a ccd cl outer) (call (.ref 121) [.ref lst]) Q E s := by
  k_dflt (refine' call_cls ?k1 ?k2 ?k3 ?k4 ?k5 ?k6 ?_; (case k1 => k_asm); (case k2 => k_asm); (case k3 => k_asm); (case k4 => k_is); (case k5 => k_is); (case k6 => k_is); k_whole; intro x' d' h' F' N' l1 l2; (try k_lt l1); (try k_lt2 l2); (try k_sweep))
  k_dflt (refine' code_def ?k1 ?k2 ?k3 ?k4 ?k5 ?kA ?kF ?kK ?k6 ?k7 ?k8 ?k9 ?kB ?_ ?c2 ?c3 ?c4 ?c5; (case kA => exact rfl); (case kF => exact rfl); (case kK => assumption); (case k1 => k_asm); (case k2 => k_asm); (case k3 => k_asm); (case k4 => k_asm); (case k5 => k_asm); (case k6 => k_is); (case k7 => k_is); (case k8 => (simp only [depth_under_make]; omega)); (case k9 => first | exact BindsTo.of_eq rfl | exact binds_K (by k_in) rfl (by k_is) rfl rfl rfl); (case c5 => decide); (case kB => exact locs rfl); (case c2 => exact rfl); (case c3 => exact rfl); (case c4 => exact rfl); k_whole; intro g' L' h' FG' F' N' B' X' T'; (try dsimp only); (try k_lift B'); (try k_fold))
  k_steps
  refine' ret _ _ _ _ _ _ _ _ _ _ _ _ _ ?r1 ?r2 ?r3 ?r4 ?r5 ?r6 ?r7 ?r8 ?r9
  case r1 => assumption
  case r2 => exact News.sub (by assumption) (by walk_at "mine sub2")
  case r3 => assumption
  case r4 => assumption
  case r5 => assumption
  case r6 => omega
  case r7 => omega
  case r8 => omega
  case r9 => omega
end
end
section
open PySem PySem.W PyProof.Rows
set_option maxRecDepth 100000
set_option maxHeartbeats 8000000
theorem fill8 : PySem.Challenge.rw_pg0172_02 = PySem.Challenge.rw_pg0172_02 ∧ Mine.hd.heap_1 = Mine.hd.heap_1 := by
  w_top off
  k_fill
  exact ⟨rfl, rfl⟩

section
variable {w : World} {p : Program} {loose : List Str} {mean : ExcName → Option Value} {mg mb : Str → Option Value}
  {dp un : Nat} {gd : Option (List Code)} {cn : Str} {cs : Scope} {a : Addr} {ccd : Value} {cl : List (Str × Addr)} {outer : List Env} {A₀ : Around} {base h₀ : Heap} {L : Addr} {m : Str → Option Value} {s : Shared} {Q E : Value → Shared → Prop} {news : List (Addr × Obj)}

local macro_rules | `(tactic| walk_at "pyIter ref") => `(tactic| (refine Stop.to ?_))
local macro_rules | `(tactic| walk_at "compareOp In str ref") => `(tactic| (k_here; k_dflt (first
  | (refine' dictIn_none (knd := PySem.strKind _ _) ?N ?m ?d ?lo (strKind_is _ _ _ _) ?v ?_; (case N => k_asm); (case m => k_mem); (case d => assumption); (case lo => assumption); (case v => assumption); intro _)
  | (refine' dictIn_some (knd := PySem.strKind _ _) ?N ?m ?d ?lo (strKind_is _ _ _ _) ?v ?_; (case N => k_asm); (case m => k_mem); (case d => assumption); (case lo => assumption); (case v => assumption); intro _)
  | (refine' setIn1_N ?N ?m ?_; (case N => k_asm); (case m => k_mem); intro _)
  | (refine' setIn0_N ?N ?m ?_; (case N => k_asm); (case m => k_mem); intro _))))
local macro_rules | `(tactic| walk_at "getItem ref str") => `(tactic| (k_here; k_dflt (refine' dictItem (knd := PySem.strKind _ _) _ _ _ (strKind_is _ _ _ _) _ ?_; walk_at "cc"); intros))
local macro_rules | `(tactic| walk_at "setItem ref str") => `(tactic| (k_here; k_dflt (refine' kda_set (knd := PySem.strKind _ _) ?F ?N ?U ?d (strKind_is _ _ _ _) ?z ?_; (case F => k_asm); (case N => k_asm); (case U => k_updF); (case d => k_asm); (case z => rw [sizeLine_eq]; omega)); intro h' o' F' N' hd'; (try dsimp only at N')))

theorem c_namesM {x dx S l ig : Nat} {io : Obj} {kvs : List (Str × Value)} {t1 t2 t3 : Tok} {n : Nat} {mod mn fn : Str} {tm tn tf : Tok} (B : Below A₀ base outer h₀) (F : Fr h₀ L s.heap m) (X : (Mine.hd.heap_1 w.params).In h₀)
    (N : News h₀ L s.heap ((ig, io) :: rdObjs w.params t1 t2 t3 x dx S l ig n (set1 (ledOf w) ((PySem.strKind PySem.Challenge.rw_pg0172_02.row.prog w).hash mod) (.str mod tm)) (W.listOf #[] 0) news))
    (T : Top p loose mean mg mb h₀) (hk : cs.kind = .function)
    (hsep : ∀ p ∈ rdObjs w.params t1 t2 t3 x dx S l ig n (set1 (ledOf w) ((PySem.strKind PySem.Challenge.rw_pg0172_02.row.prog w).hash mod) (.str mod tm)) (W.listOf #[] 0) news, p.1 ≠ ig) (lo : (ig == sysModules) = false)
    (hD : io.IsDictOf (PySem.strKind PySem.Challenge.rw_pg0172_02.row.prog w) kvs) (hz : kvs.length ≤ 100000) (hv : valueAt kvs mn = none)
    (hd : dp + 20 < recursionLimit) (hu : un + 100 < cLine) (hx1 : mod.length ≤ 100000) (hx2 : mn.length ≤ 100000) (hx3 : fn.length ≤ 100000)
    (ret : ∀ (h' : Heap) (tk' t t' : Nat) (io' : Obj), Fr h₀ L h' m → News h₀ L h' ((ig, io') :: rdObjs w.params t1 t2 t3 x dx S l ig n (set1 (ledOf w) ((PySem.strKind PySem.Challenge.rw_pg0172_02.row.prog w).hash mod) (.str mod tm)) (W.listOf #[] 0) news) → io'.IsDictOf (PySem.strKind PySem.Challenge.rw_pg0172_02.row.prog w) (stored kvs mn (.int (b01 (verdM mod mn)) t)) → Q (.int (b01 (verdM mod mn)) t') { s with heap := h', toks := tk' }) :
    wpAny (model PySem.Challenge.rw_pg0172_02.row.prog w) (ktrTop dp un gd cn cs L a ccd cl outer) (call (.ref 118) [.ref x, .str fn tf, .str mn tn]) Q E s := by
  have hsep2 := neAll_of hsep
  simp only [NeAll] at hsep2
  refine wpAny_call ?_
  k_dflt cell_enter
  k_steps
  · have eV : verdM mod mn = true := by unfold verdM; simp_all
    rw [eV] at ret
    exact ret _ _ _ _ _ (by assumption) (by assumption) (by assumption)
  rename News _ _ _ _ => NN
  rename Fr _ _ _ _ => FF
  obtain ⟨m0, hm0, F0⟩ := capM FF
  unfold Stop
  refine' iterSet1 (S := S) (hs := (PySem.strKind PySem.Challenge.rw_pg0172_02.row.prog w).hash mod) (u := .str mod tm) (J := fun i m' n' => n' = ((ig, io) :: rdObjs w.params t1 t2 t3 x dx S l ig n (set1 (ledOf w) ((PySem.strKind PySem.Challenge.rw_pg0172_02.row.prog w).hash mod) (.str mod tm)) (W.listOf #[] 0) news) ∧
      (i = 0 → m' = m0) ∧ (i ≠ 0 → m' = (fun y => if y = Str.ofString "mod" then some (.str mod tm) else m0 y) ∧ PySem.Txt.startswith mn (mod ++ Str.ofString ".") = false)) rfl F0 NN ?hm ?h0 ?hJ ?turn ?done
  case hm => k_mem
  case h0 => exact ⟨rfl, fun _ => rfl, fun h => absurd rfl h⟩
  case hJ =>
    rintro i m' n' ⟨rfl, _⟩
    k_mem
  case turn =>
    rintro I m₁ news₁ it h tk ⟨rfl, hm1, _⟩ hit hne F₁ N₁
    obtain rfl := hm1 rfl
    subst hm0
    have hne2 := neAll_of hne
    simp only [NeAll] at hne2
    k_steps
    · dsimp only [MTurn]
      k_steps
      have eV : verdM mod mn = true := by unfold verdM; simp_all
      rw [eV] at ret
      refine' ret _ _ _ _ _ ?r1 ?r2 ?r3
      case r1 => assumption
      case r2 => exact News.sub (by assumption) (by walk_at "mine sub2")
      case r3 => assumption
    · refine' TurnEnd.intro ?tF ?tN ?tn ?tJ
      case tF => assumption
      case tN => assumption
      case tn => exact hne
      case tJ => exact ⟨rfl, fun h => absurd h (by decide), fun _ => ⟨rfl, by assumption⟩⟩
  case done =>
    rintro h' tk m' news' F₁ N₁ ⟨rfl, _, hm1⟩
    obtain ⟨rfl, hst⟩ := hm1 (by decide)
    subst hm0
    k_steps
    unfold Stop
    rename News _ _ _ _ => N3
    rename Fr _ _ _ _ => F3
    refine iterL (J := fun _ m' n' => m' = _ ∧ n' = _) (vs := []) (lo := W.listOf #[] 0) (ep := 0) rfl F3 N3 (by k_mem) rfl rfl ⟨rfl, rfl⟩ ?hJ2 ?turn2 ?done2
    case hJ2 =>
      rintro i m' n' ⟨rfl, rfl⟩
      k_mem
    case turn2 =>
      intro I i v m₁ news₁ it h tk hv
      simp at hv
    case done2 =>
      rintro h' tk m' news' F₁ N₁ ⟨rfl, rfl⟩
      k_steps
      have eV : verdM mod mn = false := by unfold verdM; simp_all
      rw [eV] at ret
      exact ret _ _ _ _ _ (by assumption) (by assumption) (by assumption)

theorem c_namesF {x dx S l ig : Nat} {io : Obj} {kvs : List (Str × Value)} {t1 t2 t3 : Tok} {n : Nat} {d mn fn : Str} {td tn tf : Tok} {led : Bool} {epd : Nat} (B : Below A₀ base outer h₀) (F : Fr h₀ L s.heap m) (X : (Mine.hd.heap_1 w.params).In h₀)
    (N : News h₀ L s.heap ((ig, io) :: rdObjs w.params t1 t2 t3 x dx S l ig n (set0 led) (W.listOf [Value.str d td].toArray epd) news))
    (T : Top p loose mean mg mb h₀) (hk : cs.kind = .function)
    (hsep : ∀ p ∈ rdObjs w.params t1 t2 t3 x dx S l ig n (set0 led) (W.listOf [Value.str d td].toArray epd) news, p.1 ≠ ig) (lo : (ig == sysModules) = false)
    (hD : io.IsDictOf (PySem.strKind PySem.Challenge.rw_pg0172_02.row.prog w) kvs) (hz : kvs.length ≤ 100000) (hv : valueAt kvs mn = none)
    (hd : dp + 20 < recursionLimit) (hu : un + 100 < cLine) (hx1 : d.length ≤ 100000) (hx2 : mn.length ≤ 100000) (hx3 : fn.length ≤ 100000)
    (ret : ∀ (h' : Heap) (tk' t t' : Nat) (io' : Obj), Fr h₀ L h' m → News h₀ L h' ((ig, io') :: rdObjs w.params t1 t2 t3 x dx S l ig n (set0 led) (W.listOf [Value.str d td].toArray epd) news) → io'.IsDictOf (PySem.strKind PySem.Challenge.rw_pg0172_02.row.prog w) (stored kvs mn (.int (b01 (verdF d fn)) t)) → Q (.int (b01 (verdF d fn)) t') { s with heap := h', toks := tk' }) :
    wpAny (model PySem.Challenge.rw_pg0172_02.row.prog w) (ktrTop dp un gd cn cs L a ccd cl outer) (call (.ref 118) [.ref x, .str fn tf, .str mn tn]) Q E s := by
  have hsep2 := neAll_of hsep
  simp only [NeAll] at hsep2
  refine wpAny_call ?_
  k_dflt cell_enter
  k_steps
  unfold Stop
  rename News _ _ _ _ => NN
  rename Fr _ _ _ _ => FF
  refine iterSet0 (S := S) (led := led) rfl FF NN (by k_mem) ?_
  intro h1' tk1 F1 N1
  k_steps
  unfold Stop
  rename News _ _ _ _ => N3
  rename Fr _ _ _ _ => F3
  obtain ⟨m0, hm0, F0⟩ := capM F3
  refine' iterL (J := fun i m' n' => n' = ((ig, io) :: rdObjs w.params t1 t2 t3 x dx S l ig n (set0 led) (W.listOf [Value.str d td].toArray epd) news) ∧
      (i = 0 → m' = m0) ∧ (i ≠ 0 → m' = (fun y => if y = Str.ofString "d" then some (.str d td) else m0 y) ∧ PySem.Txt.startswith fn (d ++ Str.ofString "/") = false)) (vs := [Value.str d td]) (lo := W.listOf [Value.str d td].toArray epd) (ep := epd) rfl F0 N3 ?hm rfl rfl ?h0 ?hJ ?turn ?done
  case hm => k_mem
  case h0 => exact ⟨rfl, fun _ => rfl, fun h => absurd rfl h⟩
  case hJ =>
    rintro i m' n' ⟨rfl, _⟩
    k_mem
  case turn =>
    rintro I i v m₁ news₁ it h tk hvi ⟨rfl, hm1, hm2⟩ hit hne F₁ N₁
    have hi0 : i = 0 := by
      cases i with
      | zero => rfl
      | succ i => simp at hvi
    subst hi0
    have hv0 : v = .str d td := by simpa using hvi.symm
    subst hv0
    obtain rfl := hm1 rfl
    subst hm0
    have hne2 := neAll_of hne
    simp only [NeAll] at hne2
    k_steps
    · dsimp only [MTurn]
      k_steps
      have eV : verdF d fn = true := by unfold verdF; simp_all
      rw [eV] at ret
      refine' ret _ _ _ _ _ ?r1 ?r2 ?r3
      case r1 => assumption
      case r2 => exact News.sub (by assumption) (by walk_at "mine sub2")
      case r3 => assumption
    · refine' TurnEnd.intro ?tF ?tN ?tn ?tJ
      case tF => assumption
      case tN => assumption
      case tn => exact hne
      case tJ => exact ⟨rfl, fun h => absurd h (by omega), fun _ => ⟨rfl, by assumption⟩⟩
  case done =>
    rintro h' tk m' news' F₁ N₁ ⟨rfl, _, hm1⟩
    obtain ⟨rfl, hst⟩ := hm1 (by simp)
    subst hm0
    k_steps
    have eV : verdF d fn = false := by unfold verdF; simp_all
    rw [eV] at ret
    exact ret _ _ _ _ _ (by assumption) (by assumption) (by assumption)

theorem c_namesHit {x dx S l ig : Nat} {io : Obj} {kvs : List (Str × Value)} {t1 t2 t3 : Tok} {n : Nat} {so lob : Obj} {fv v : Value} {mn : Str} {tn : Tok} (B : Below A₀ base outer h₀) (F : Fr h₀ L s.heap m) (X : (Mine.hd.heap_1 w.params).In h₀)
    (N : News h₀ L s.heap ((ig, io) :: rdObjs w.params t1 t2 t3 x dx S l ig n (so) (lob) news))
    (T : Top p loose mean mg mb h₀) (hk : cs.kind = .function)
    (hsep : ∀ p ∈ rdObjs w.params t1 t2 t3 x dx S l ig n (so) (lob) news, p.1 ≠ ig) (lo : (ig == sysModules) = false)
    (hD : io.IsDictOf (PySem.strKind PySem.Challenge.rw_pg0172_02.row.prog w) kvs) (hz : kvs.length ≤ 100000) (hv : valueAt kvs mn = some v)
    (hd : dp + 20 < recursionLimit) (hu : un + 100 < cLine) 
    (ret : ∀ (h' : Heap) (tk' : Nat), Fr h₀ L h' m → News h₀ L h' ((ig, io) :: rdObjs w.params t1 t2 t3 x dx S l ig n so lob news) → Q v { s with heap := h', toks := tk' }) :
    wpAny (model PySem.Challenge.rw_pg0172_02.row.prog w) (ktrTop dp un gd cn cs L a ccd cl outer) (call (.ref 118) [.ref x, fv, .str mn tn]) Q E s := by
  have hsep2 := neAll_of hsep
  simp only [NeAll] at hsep2
  refine wpAny_call ?_
  k_dflt cell_enter
  k_steps
  exact ret _ _ (by assumption) (by assumption)
end
end
section
open PySem PySem.W PyProof.Rows
set_option maxRecDepth 100000
set_option maxHeartbeats 8000000
theorem fill9 : PySem.Challenge.rw_pg0172_02 = PySem.Challenge.rw_pg0172_02 ∧ Mine.hd.heap_1 = Mine.hd.heap_1 := by
  w_top off
  k_fill
  exact ⟨rfl, rfl⟩

section
variable {w : World} {p : Program} {loose : List Str} {mean : ExcName → Option Value} {mg mb : Str → Option Value}
  {dp un : Nat} {gd : Option (List Code)} {cn : Str} {cs : Scope} {a : Addr} {ccd : Value} {cl : List (Str × Addr)} {outer : List Env} {A₀ : Around} {base h₀ : Heap} {L : Addr} {m : Str → Option Value} {s : Shared} {Q E : Value → Shared → Prop} {news : List (Addr × Obj)}

local macro_rules | `(tactic| walk_at "exec For") => `(tactic| (k_here; (rename Fr _ _ _ _ => lF'); (with_unfolding_all refine' forL lF' ?hx ?hp ?_; (case hx => rfl); (case hp => rfl); k_whole)))
local macro_rules | `(tactic| walk_at "pyIter ref") => `(tactic| (refine Stop.to ?_))
theorem c_splitroot {d : Str} {td : Tok} (B : Below A₀ base outer h₀) (F : Fr h₀ L s.heap m) (X : (Mine.hd.heap_1 w.params).In h₀) (N : News h₀ L s.heap news) (T : Top p loose mean mg mb h₀) (hk : cs.kind = .function)
    (hd : dp + 20 < recursionLimit) (hu : un + 100 < cLine) (hx : d.length ≤ 100000) (hx1 : 1 ≤ d.length) (hq1 : (PySem.Txt.slice d none (some 1) != Str.ofString "/") = false) (hq2 : (PySem.Txt.slice d (some 1) (some 2) != Str.ofString "/") = true)
    (ret : ∀ (h' : Heap) (tk' t1 t2 t3 : Nat) (r : Addr), Fr h₀ L h' m → News h₀ L h' ((r, { cls := .type "tuple", data := .seq #[.str (Str.ofString "") t1, .str (Str.ofString "/") t2, .str (PySem.Txt.slice d (some 1) none) t3] }) :: news) → (∀ p ∈ news, p.1 < r) → Q (.ref r) { s with heap := h', toks := tk' }) :
    wpAny (model PySem.Challenge.rw_pg0172_02.row.prog w) (ktrTop dp un gd cn cs L a ccd cl outer) (call (.ref 84) [.str d td]) Q E s := by
  refine wpAny_call ?_
  k_dflt cell_enter
  k_steps
  refine' ret _ _ _ _ _ _ ?r1 ?r2 ?r3
  case r1 => assumption
  case r2 => assumption
  case r3 => assumption
local macro_rules | `(tactic| walk_at "call ref") => `(tactic| (k_here; k_dflt (refine' c_splitroot _ _ _ _ _ _ _ _ _ _ _ _ ?_; walk_at "cc"); walk_at "il"))
local macro_rules | `(tactic| walk_at "binaryOp Add str str") => `(tactic| (refine add_str (fun _ _ => ?_) ?asz; (case asz => (first | (rw [sizeLine_eq]; (simp only [show (Str.ofString "/").length = 1 from by decide]); omega) | (rw [sizeLine_eq]; omega)))))
local macro_rules | `(tactic| walk_at "call builtin:str.join") => `(tactic| (k_here; k_dflt (refine' joinV _ _ _ _ _ ?_; walk_at "cc"); intros))
theorem c_normpath0 {d : Str} {td : Tok} (B : Below A₀ base outer h₀) (F : Fr h₀ L s.heap m) (X : (Mine.hd.heap_1 w.params).In h₀) (N : News h₀ L s.heap news) (T : Top p loose mean mg mb h₀) (hk : cs.kind = .function)
    (hd : dp + 40 < recursionLimit) (hu : un + 200 < cLine) (hx : d.length ≤ 100000) (hx1 : 1 ≤ d.length) (hq1 : (PySem.Txt.slice d none (some 1) != Str.ofString "/") = false) (hq2 : (PySem.Txt.slice d (some 1) (some 2) != Str.ofString "/") = true)
    (comps : List Str) (hsp : PySem.Txt.split (PySem.Txt.slice d (some 1) none) (Str.ofString "/") = comps ++ [Str.ofString "."]) (hcs : ∀ c ∈ comps, 1 ≤ c.length ∧ c ≠ Str.ofString "." ∧ c ≠ Str.ofString "..") (hcn : comps.length ≤ 100000) (hcl : ∀ c ∈ comps, c.length ≤ 100000)
    (hok : (comps.map (·.length)).sum + comps.length * 64 ≤ 1000000)
    (ret : ∀ (h' : Heap) (tk' t : Nat), Fr h₀ L h' m → News h₀ L h' news → Q (.str (Str.ofString "/" ++ PySem.Txt.join (Str.ofString "/") comps) t) { s with heap := h', toks := tk' }) :
    wpAny (model PySem.Challenge.rw_pg0172_02.row.prog w) (ktrTop dp un gd cn cs L a ccd cl outer) (call (.ref 91) [.str d td]) Q E s := by
  refine wpAny_call ?_
  k_dflt cell_enter
  k_steps
  · rename News _ _ _ _ => NN
    rename Fr _ _ _ _ => FF
    rename List.map _ _ = _ => hsl
    obtain ⟨sl, rfl, hsl⟩ := capS hsl
    rw [hsp] at hsl
    obtain ⟨m0, hm0, F0⟩ := capM FF
    unfold Stop
    obtain ⟨nl, o1, ca, r1, rfl, ho1, hca, hr1, N1⟩ := cap3 NN
    subst ho1
    rw [← hca]
    have hca2 : @Eq Nat ca _ := hca
    have hsn : sl.length = comps.length + 1 := by
      have := congrArg List.length hsl
      simpa using this
    rename StrsAre _ _ => hsa
    refine iterL (ax := ca) (lo := { cls := .type "list", data := .seq (strValues sl).toArray }) (vs := strValues sl) (ep := 0) (fun i m' n' => ∃ uc ep, m' = (fun z => if z = Str.ofString "comp" then uc else m0 z) ∧
      n' = (nl, W.listOf ((strValues sl).take (min i comps.length)).toArray ep) :: (ca, { cls := .type "list", data := .seq (strValues sl).toArray }) :: r1) rfl F0 N1 ?hm rfl rfl ?h0 ?hJ ?turn ?done
    case hm => k_mem
    case h0 => exact ⟨_, 0, map1 m0 _, by simp⟩
    case hJ =>
      rintro i m' n' ⟨uc, ep, rfl, rfl⟩
      k_mem
    case turn =>
      rintro I i v m₁ news₁ it h tk hvi ⟨uc, ep, rfl, rfl⟩ hit hne F₁ N₁
      subst hm0 hr1
      have hne2 := neAll_of hne
      simp only [NeAll] at hne2
      obtain ⟨⟨c, t⟩, hct, rfl⟩ : ∃ p : Str × Tok, sl[i]? = some p ∧ v = .str p.1 p.2 := by
        simp only [strValues, List.getElem?_map] at hvi
        cases hq : sl[i]? with
        | none => rw [hq] at hvi; cases hvi
        | some p => rw [hq] at hvi; exact ⟨p, rfl, (Option.some.inj hvi).symm⟩
      have hci : (comps ++ [Str.ofString "."])[i]? = some c := by rw [← hsl, List.getElem?_map, hct]; rfl
      have hlen : ((strValues sl).take (min i comps.length)).length ≤ 1000000 := by
        rw [List.length_take]; omega
      by_cases hin : i < comps.length
      · have hcm : c ∈ comps := by
          rw [List.getElem?_append_left hin] at hci
          exact List.mem_of_getElem? hci
        obtain ⟨c1, c2, c3⟩ := hcs c hcm
        have c4 : (c == Str.ofString ".") = false := by simpa using c2
        have c5 : (c != Str.ofString "..") = true := by simpa using c3
        have c6 : c.length ≤ 100000 := hcl c hcm
        have eT : (strValues sl).take (min i comps.length) ++ [Value.str c t] = (strValues sl).take (min (i + 1) comps.length) := by
          have hvi' : (strValues sl)[i]? = some (Value.str c t) := by simp only [strValues, List.getElem?_map, hct]; rfl
          have e1 : min i comps.length = i := by omega
          have e2 : min (i + 1) comps.length = i + 1 := by omega
          rw [e1, e2, List.take_add_one, hvi']
          rfl
        k_steps
        all_goals (first | (exfalso; omega) | skip)
        all_goals (
          dsimp only [MTurn]
          refine' TurnEnd.intro ?tF ?tN ?tn ?tJ
          case tF => assumption
          case tN => assumption
          case tJ => exact ⟨_, _, map1_up (a := Str.ofString "comp"), by rw [eT]⟩
          case tn => k_all)
      · have hcd : c = Str.ofString "." := by
          have : i = comps.length := by
            have := (List.getElem?_eq_some_iff.mp hci).1
            simp at this
            omega
          subst this
          simpa using hci.symm
        have c4 : (c == Str.ofString ".") = true := by rw [hcd]; rfl
        have c1 : 1 ≤ c.length := by rw [hcd]; decide
        have c6 : c.length ≤ 100000 := by rw [hcd]; decide
        clear hcd
        have eT : min (i + 1) comps.length = min i comps.length := by omega
        k_steps
        all_goals (first | (exfalso; omega) | skip)
        all_goals (
          dsimp only [MTurn]
          refine' TurnEnd.intro ?tF ?tN ?tn ?tJ
          case tF => assumption
          case tN => assumption
          case tJ => exact ⟨_, _, map1_up (a := Str.ofString "comp"), by rw [eT]⟩
          case tn => exact hne)
    case done =>
      rintro h' tk m' news' F₁ N₁ ⟨uc, ep, rfl, rfl⟩
      subst hm0 hr1
      have hfin : StrsAre ((strValues sl).take (min (strValues sl).length comps.length)) comps := by
        have e1 : min (strValues sl).length comps.length = comps.length := by simp [strValues]; omega
        have h1 := strsAre_take hsa comps.length
        rw [hsl, List.take_left] at h1
        rw [e1]
        exact h1
      have hjl : (PySem.Txt.join (Str.ofString "/") comps).length ≤ 1000000 := by
        have h1 := tjoin_len (Str.ofString "/") comps
        have h2 : (Str.ofString "/").length = 1 := by decide
        rw [h2] at h1
        omega
      have hj1 : (Str.ofString "/" ++ PySem.Txt.join (Str.ofString "/") comps).length = 1 + (PySem.Txt.join (Str.ofString "/") comps).length := by
        rw [Str.length_append]
        have h2 : (Str.ofString "/").length = 1 := by decide
        rw [h2]
      k_steps
      all_goals (first | (exfalso; omega) | skip)
      all_goals exact ret _ _ _ (by assumption) (News.sub (by assumption) (by walk_at "mine sub2"))
  · exfalso; omega
end
end
section
open PySem PySem.W PyProof.Rows
set_option maxRecDepth 100000
set_option maxHeartbeats 8000000
theorem fill12 : PySem.Challenge.rw_pg0172_02 = PySem.Challenge.rw_pg0172_02 ∧ Mine.hd.heap_1 = Mine.hd.heap_1 := by
  w_top off
  k_fill
  exact ⟨rfl, rfl⟩

section
variable {w : World} {p : Program} {loose : List Str} {mean : ExcName → Option Value} {mg mb : Str → Option Value}
  {dp un : Nat} {gd : Option (List Code)} {cn : Str} {cs : Scope} {a : Addr} {ccd : Value} {cl : List (Str × Addr)} {outer : List Env} {A₀ : Around} {base h₀ : Heap} {L : Addr} {m : Str → Option Value} {s : Shared} {Q E : Value → Shared → Prop} {news : List (Addr × Obj)}

local macro_rules | `(tactic| walk_at "call ref") => `(tactic| refine Stop.to ?_)
local macro_rules | `(tactic| walk_at "call ref") => `(tactic| (k_here; k_dflt (refine' c_normpath0 _ _ _ _ _ _ _ _ _ _ _ _ _ _ _ _ _ _ ?_; walk_at "cc"; intros)))
theorem c_normpath {d : Str} {td : Tok} (B : Below A₀ base outer h₀) (F : Fr h₀ L s.heap m) (X : (Mine.hd.heap_1 w.params).In h₀) (N : News h₀ L s.heap news) (T : Top p loose mean mg mb h₀) (hk : cs.kind = .function)
    (hd : dp + 60 < recursionLimit) (hu : un + 300 < cLine) (hx : d.length ≤ 100000) (hx1 : 1 ≤ d.length) (hq1 : (PySem.Txt.slice d none (some 1) != Str.ofString "/") = false) (hq2 : (PySem.Txt.slice d (some 1) (some 2) != Str.ofString "/") = true)
    (comps : List Str) (hsp : PySem.Txt.split (PySem.Txt.slice d (some 1) none) (Str.ofString "/") = comps ++ [Str.ofString "."]) (hcs : ∀ c ∈ comps, 1 ≤ c.length ∧ c ≠ Str.ofString "." ∧ c ≠ Str.ofString "..") (hcn : comps.length ≤ 100000) (hcl : ∀ c ∈ comps, c.length ≤ 100000)
    (hok : (comps.map (·.length)).sum + comps.length * 64 ≤ 1000000)
    (ret : ∀ (h' : Heap) (tk' t : Nat), Fr h₀ L h' m → News h₀ L h' news → Q (.str (Str.ofString "/" ++ PySem.Txt.join (Str.ofString "/") comps) t) { s with heap := h', toks := tk' }) :
    wpAny (model PySem.Challenge.rw_pg0172_02.row.prog w) (ktrTop dp un gd cn cs L a ccd cl outer) (call (.ref 98) [.str d td]) Q E s := by
  refine wpAny_call ?_
  k_dflt (refine' kp_both ?k1 ?k2 ?k3 ?k4 ?k5 ?kA ?kF ?kK ?k6 ?k7 ?k8 ?kV ?kX ?kQ ?kM ?kN ?kD ?kR ?kP ?kS ?kT ?kB ?_ ?c2 ?c3 ?c4 ?c5; (case kA => exact rfl); (case kF => exact rfl); (case kK => assumption); (case k1 => k_asm); (case k2 => k_asm); (case k3 => k_asm); (case k4 => k_asm); (case k5 => k_asm); (case k6 => k_is); (case k7 => k_is); (case k8 => ktr_room); (case kV => kp_lit); (case kX => kp_lit); (case kQ => exact rfl); (case kM => exact rfl); (case kN => exact rfl); (case kD => kp_flats); (case kR => exact rfl); (case kP => exact rfl); (case kS => exact fun _ => rfl); (case kT => exact fun _ _ => rfl); (case kB => exact fun _ _ => locs rfl); (case c5 => decide); (case c2 => exact rfl); (case c3 => exact rfl); (case c4 => exact rfl); k_whole; intro C' D' o' g' L' h' tk' l1 l2 lo' hs' fs' FG' F' N' B' X' T'; (try k_lt l1); (try k_lt2 l2); (try dsimp only); (try k_lift B'); (try k_fold))
  k_steps
  all_goals unfold Stop
  all_goals (k_here; k_dflt (refine wpAny_call ?_; (refine' code_def ?k1Y1 ?k2Y1 ?k3Y1 ?k4Y1 ?k5Y1 ?kAY1 ?kFY1 ?kKY1 ?k6Y1 ?k7Y1 ?k8Y1 ?k9Y1 ?kBY1 ?_ ?c2Y1 ?c3Y1 ?c4Y1 ?c5Y1; (case kAY1 => exact rfl); (case kFY1 => exact rfl); (case kKY1 => exact rfl); (case k1Y1 => k_asm); (case k2Y1 => k_asm); (case k3Y1 => k_asm); (case k4Y1 => k_asm); (case k5Y1 => k_asm); (case k6Y1 => k_is); (case k7Y1 => k_is); (case k8Y1 => ktr_room); (case k9Y1 => exact BindsTo.of_eq rfl); (case c5Y1 => decide); (case kBY1 => exact locs rfl); (case c2Y1 => exact rfl); (case c3Y1 => exact rfl); (case c4Y1 => exact rfl); k_whole; intro g' L' h' FG' F' N' B' X' T'; (try dsimp only); (try k_lift B'); (try k_fold))))
  all_goals k_steps
  all_goals unfold Stop
  all_goals (k_here; k_dflt (refine wpAny_call ?_; (refine' code_def ?k1Y2 ?k2Y2 ?k3Y2 ?k4Y2 ?k5Y2 ?kAY2 ?kFY2 ?kKY2 ?k6Y2 ?k7Y2 ?k8Y2 ?k9Y2 ?kBY2 ?_ ?c2Y2 ?c3Y2 ?c4Y2 ?c5Y2; (case kAY2 => exact rfl); (case kFY2 => exact rfl); (case kKY2 => exact rfl); (case k1Y2 => k_asm); (case k2Y2 => k_asm); (case k3Y2 => k_asm); (case k4Y2 => k_asm); (case k5Y2 => k_asm); (case k6Y2 => k_is); (case k7Y2 => k_is); (case k8Y2 => ktr_room); (case k9Y2 => exact BindsTo.of_eq rfl); (case c5Y2 => decide); (case kBY2 => exact locs rfl); (case c2Y2 => exact rfl); (case c3Y2 => exact rfl); (case c4Y2 => exact rfl); k_whole; intro g' L' h' FG' F' N' B' X' T'; (try dsimp only); (try k_lift B'); (try k_fold))))
  all_goals k_steps
  all_goals exact ret _ _ _ (by assumption) (News.sub (by assumption) (by walk_at "mine sub2"))
end
end
section
open PySem PySem.W PyProof.Rows
set_option maxRecDepth 100000
set_option maxHeartbeats 8000000
theorem fillL9 : PySem.Challenge.rw_pg0172_02 = PySem.Challenge.rw_pg0172_02 ∧ Mine.hd.heap_1 = Mine.hd.heap_1 := by
  w_top off
  k_fill
  exact ⟨rfl, rfl⟩

section
variable {w : World} {p : Program} {loose : List Str} {mean : ExcName → Option Value} {mg mb : Str → Option Value}
  {dp un : Nat} {gd : Option (List Code)} {cn : Str} {cs : Scope} {a : Addr} {ccd : Value} {cl : List (Str × Addr)} {outer : List Env} {A₀ : Around} {base h₀ : Heap} {L : Addr} {m : Str → Option Value} {s : Shared} {Q E : Value → Shared → Prop} {news : List (Addr × Obj)}

local macro_rules | `(tactic| walk_at "truthy ref") => `(tactic| (k_here; k_dflt (refine' truthyCons _ _ _ ?_; walk_at "cc"); intros))
local macro_rules | `(tactic| walk_at "call type:set cons nil") => `(tactic| (k_here; k_dflt (refine' newSetStr_N _ _ _ _ ?_; walk_at "cc"); walk_at "il"))
local macro_rules | `(tactic| walk_at "call ref") => `(tactic| (k_here; k_dflt (refine' c_normpath _ _ _ _ _ _ _ ?hu _ _ _ _ _ _ _ _ _ _ ?_; (case hu => first | ktr_units | ((try simp only [units_under_make, units_deeper, units_in1] at *); (try dsimp only [ktrTop] at *); omega)); walk_at "cc"; intros)))
def Apart5 (dx x S l ig q : Nat) : Prop := @Ne Nat q dx ∧ @Ne Nat q x ∧ @Ne Nat q S ∧ @Ne Nat q l ∧ @Ne Nat q ig
theorem off1_all {D : Addr} (l : List (Addr × Obj)) (h : LCg.Off1 D l) : ∀ p ∈ l, @Ne Nat p.1 D := by
  induction l with
  | nil => intro p hp; cases hp
  | cons q r ih =>
    intro p hp
    rcases List.mem_cons.mp hp with e | e
    · rw [e]; exact h.1
    · exact ih h.2 p e
theorem off_tail {D a b c : Addr} {q : Addr × Obj} {r : List (Addr × Obj)} (h : (@Ne Nat a D) ∧ (@Ne Nat b D) ∧ (@Ne Nat c D) ∧ (@Ne Nat q.1 D) ∧ LCg.Off1 D r) : LCg.Off1 D (q :: r) := h.2.2.2
theorem apart_of {dx x S l ig : Nat} {news : List (Addr × Obj)} (h1 : ∀ p ∈ news, @LT.lt Nat _ p.1 dx) (a : @LT.lt Nat _ dx x) (b : @LT.lt Nat _ x S) (h2 : ∀ p ∈ news, @Ne Nat p.1 l) (c : @LT.lt Nat _ S ig) : ∀ p ∈ news, Apart5 dx x S l ig p.1 := by
  intro p hp
  have := h1 p hp
  have := h2 p hp
  unfold Apart5
  refine ⟨?_, ?_, ?_, ?_, ?_⟩ <;> first | assumption | (intro e; omega)
theorem newsPerm {h₀ h : Heap} {L : Addr} {a b c d e : Addr × Obj} {r : List (Addr × Obj)} (N : News h₀ L h (a :: b :: c :: d :: e :: r)) : News h₀ L h (a :: d :: e :: c :: b :: r) := by
  intro p hp
  refine N p ?_
  simp only [List.mem_cons] at hp ⊢
  rcases hp with h | h | h | h | h | h <;> simp [h]
theorem compEndAll {h₀ : Heap} {L I C D : Addr} {m : Str → Option Value} {s₁ : Shared} {oI oC oD : Obj} {S : List (Addr × Obj) → Prop} {rest : Value → List (Addr × Obj) → Prop} {y : Value} {h' : Heap} {tk : Nat} {news' : List (Addr × Obj)}
    (F : Fr h₀ L h' m) (N : News h₀ L h' ((I, oI) :: (C, oC) :: (D, oD) :: news')) (off : LCg.Off3 I C D news') (hS : S news') (r : rest y news') : LCg.CompEnd h₀ L m s₁ I oI C oC D oD S rest y { s₁ with heap := h', toks := tk } :=
  LCg.CompEnd.intro F N news' (fun _ h => h) off hS r
local macro_rules | `(tactic| walk_at "CompEnd") => `(tactic| (refine' compEndAll ?cF ?cN ?cO ?cH ?_; (case cF => k_asm); (case cN => assumption); (case cO => first | assumption | (simp only [LCg.Off3, and_true]; assumption)); (case cH => lcg_src)))
theorem c_readerF {lst ep : Nat} {d : Str} {td : Tok} (B : Below A₀ base outer h₀) (F : Fr h₀ L s.heap m) (X : (Mine.hd.heap_1 w.params).In h₀) (N : News h₀ L s.heap ((lst, W.listOf [Value.str d td].toArray ep) :: news)) (T : Top p loose mean mg mb h₀) (hk : cs.kind = .function)
    (hd : dp + 100 < recursionLimit) (hu : un + 500 < cLine) (hx : d.length ≤ 100000) (hx1 : 1 ≤ d.length) (hq1 : (PySem.Txt.slice d none (some 1) != Str.ofString "/") = false) (hq2 : (PySem.Txt.slice d (some 1) (some 2) != Str.ofString "/") = true)
    (comps : List Str) (hsp : PySem.Txt.split (PySem.Txt.slice d (some 1) none) (Str.ofString "/") = comps ++ [Str.ofString "."]) (hcs : ∀ c ∈ comps, 1 ≤ c.length ∧ c ≠ Str.ofString "." ∧ c ≠ Str.ofString "..") (hcn : comps.length ≤ 100000) (hcl : ∀ c ∈ comps, c.length ≤ 100000)
    (hok : (comps.map (·.length)).sum + comps.length * 64 ≤ 1000000)
    (ret : ∀ (h' : Heap) (tk' t tr t1 t2 t3 n epd : Nat) (led : Bool) (x dx S l ig : Addr) (io : Obj), Fr h₀ L h' m → News h₀ L h' ((ig, io) :: rdObjs w.params t1 t2 t3 x dx S l ig n (set0 led) (W.listOf [Value.str (Str.ofString "/" ++ PySem.Txt.join (Str.ofString "/") comps) tr].toArray epd) ((lst, W.listOf [Value.str d td].toArray ep) :: news)) →
      io.IsDictOf (PySem.strKind PySem.Challenge.rw_pg0172_02.row.prog w) [(Str.ofString "<string>", .int 1 t)] → (ig == sysModules) = false → (∀ p ∈ (lst, W.listOf [Value.str d td].toArray ep) :: news, Apart5 dx x S l ig p.1) → (@Ne Nat dx ig ∧ @Ne Nat x ig ∧ @Ne Nat S ig ∧ @Ne Nat l ig) → Q (.ref x) { s with heap := h', toks := tk' }) :
    wpAny (model PySem.Challenge.rw_pg0172_02.row.prog w) (ktrTop dp un gd cn cs L a ccd cl outer) (call (.ref 121) [.none, .ref lst]) Q E s := by
  k_dflt (refine' call_cls ?k1 ?k2 ?k3 ?k4 ?k5 ?k6 ?_; (case k1 => k_asm); (case k2 => k_asm); (case k3 => k_asm); (case k4 => k_is); (case k5 => k_is); (case k6 => k_is); k_whole; intro x' d' h' F' N' l1 l2; (try k_lt l1); (try k_lt2 l2); (try k_sweep))
  k_dflt (refine' code_def ?k1 ?k2 ?k3 ?k4 ?k5 ?kA ?kF ?kK ?k6 ?k7 ?k8 ?k9 ?kB ?_ ?c2 ?c3 ?c4 ?c5; (case kA => exact rfl); (case kF => exact rfl); (case kK => assumption); (case k1 => k_asm); (case k2 => k_asm); (case k3 => k_asm); (case k4 => k_asm); (case k5 => k_asm); (case k6 => k_is); (case k7 => k_is); (case k8 => (simp only [depth_under_make]; omega)); (case k9 => first | exact BindsTo.of_eq rfl | exact binds_K (by k_in) rfl (by k_is) rfl rfl rfl); (case c5 => decide); (case kB => exact locs rfl); (case c2 => exact rfl); (case c3 => exact rfl); (case c4 => exact rfl); k_whole; intro g' L' h' FG' F' N' B' X' T'; (try dsimp only); (try k_lift B'); (try k_fold))
  k_steps
  refine' ret _ _ _ _ _ _ _ _ _ _ _ _ _ _ _ _ ?r1 ?r2 ?r3 ?r4 ?r5 ?r6
  case r1 => assumption
  case r2 => (refine' newsPerm ?rN; (case rN => assumption))
  case r3 => assumption
  case r4 => assumption
  case r5 => (refine' apart_of ?a1 ?a2 ?a3 ?a4 ?a5; (case a1 => assumption); (case a2 => omega); (case a3 => omega); (case a4 => exact off1_all _ (off_tail (by assumption))); (case a5 => omega))
  case r6 => (refine ⟨?_, ?_, ?_, ?_⟩ <;> omega)
end
end
section
open PySem PySem.W PyProof.Rows
set_option maxRecDepth 100000
set_option maxHeartbeats 8000000
theorem fillL10 : PySem.Challenge.rw_pg0172_02 = PySem.Challenge.rw_pg0172_02 ∧ Mine.hd.heap_1 = Mine.hd.heap_1 := by
  w_top off
  k_fill
  exact ⟨rfl, rfl⟩

theorem whEnd {h₀ h' : Heap} {L : Addr} {s : Shared} {J : Nat → (Str → Option Value) → List (Addr × Obj) → Prop} {Q : Flow → Shared → Prop} {n n' tk : Nat} {m₂ : Str → Option Value} {news₂ : List (Addr × Obj)}
    (F : Fr h₀ L h' m₂) (N : News h₀ L h' news₂) (hn : n' < n) (hJ : J n' m₂ news₂) : WhileStep2 h₀ L s J Q n .next { s with heap := h', toks := tk } :=
  ⟨h', tk, m₂, news₂, n', rfl, F, N, hn, hJ⟩
theorem map1is {m0 : Str → Option Value} {a : Str} {v : Value} (h : m0 a = some v) : m0 = fun z => if z = a then some v else m0 z := by
  funext z
  by_cases h1 : z = a
  · subst h1; simp only [if_true]; exact h
  · simp only [h1, if_false]
section
variable {w : World} {p : Program} {loose : List Str} {mean : ExcName → Option Value} {mg mb : Str → Option Value}
  {dp un : Nat} {gd : Option (List Code)} {cn : Str} {cs : Scope} {a : Addr} {ccd : Value} {cl : List (Str × Addr)} {outer : List Env} {A₀ : Around} {base h₀ : Heap} {L : Addr} {m : Str → Option Value} {s : Shared} {Q E : Value → Shared → Prop} {news : List (Addr × Obj)}

local macro_rules | `(tactic| walk_at "exec While") => `(tactic| refine Stop.to ?_)
local macro_rules | `(tactic| walk_at "exec While Compare") => `(tactic| refine Stop.to ?_)
local macro_rules | `(tactic| walk_at "binaryOp Pow int int") => `(tactic| (refine pow_int_small ?kb1 ?kb2 ?kb3 ?_; (case kb1 => omega); (case kb2 => omega); (case kb3 => decide)))
theorem c_width (B : Below A₀ base outer h₀) (F : Fr h₀ L s.heap m) (X : (Mine.hd.heap_1 w.params).In h₀) (N : News h₀ L s.heap news) (T : Top p loose mean mg mb h₀) (hk : cs.kind = .function)
    (hd : dp + 20 < recursionLimit) (hu : un + 100 < cLine) (n : Int) (tn : Tok) (hn : 0 < n) (W : Nat) (hW : W ≤ 40) (hW1 : n ≤ 2 ^ W) (hW2 : ∀ v : Nat, v < W → (2 : Int) ^ v < n)
    (ret : ∀ (h' : Heap) (tk' t : Nat), Fr h₀ L h' m → News h₀ L h' news → Q (.int W t) { s with heap := h', toks := tk' }) :
    wpAny (model PySem.Challenge.rw_pg0172_02.row.prog w) (ktrTop dp un gd cn cs L a ccd cl outer) (call (.ref 132) [.int n tn]) Q E s := by
  refine wpAny_call ?_
  k_dflt cell_enter
  k_steps
  rename News _ _ _ _ => NN
  rename Fr _ _ _ (fun _ => _) => FF
  obtain ⟨m0, hm0, F0⟩ := capM FF
  unfold Stop
  refine While_inv2 (fun k m' n' => ∃ (v : Nat) (t : Nat), v ≤ W ∧ k = W - v ∧ m' = (fun z => if z = Str.ofString "width" then some (.int (v : Int) t) else m0 z) ∧ n' = news) (n₀ := W) F0 NN ?h0 ?turn
  case h0 =>
    subst hm0
    refine' ⟨0, ?t, ?a, ?b, map1is ?c, ?d⟩
    case c => exact rfl
    case d => rfl
    all_goals omega
  case turn =>
    rintro k m₁ news₁ h₁ tk₁ F₁ N₁ ⟨v, t, hv, rfl, rfl, rfl⟩
    subst hm0
    have hv0 : (0 : Int) ≤ (v : Int) := by omega
    k_steps
    · rename (2 : Int) ^ _ < n => hlt
      have hlt2 : (2 : Int) ^ v < n := hlt
      have hvW : v < W := by
        rcases Nat.lt_or_ge v W with h | h
        · exact h
        · exfalso
          have e : v = W := by omega
          subst e; omega
      refine' whEnd ?tF ?tN ?tn ?tJ
      case tF => assumption
      case tN => assumption
      case tJ => exact ⟨v + 1, _, hvW, rfl, map1_up (a := Str.ofString "width"), rfl⟩
      case tn => omega
    · rename ¬ (2 : Int) ^ _ < n => hge
      have hge2 : ¬ (2 : Int) ^ v < n := hge
      have hvW : v = W := by
        rcases Nat.lt_or_ge v W with h | h
        · exact absurd (hW2 v h) hge2
        · omega
      subst hvW
      exact ret _ _ _ (by assumption) (by assumption)
end
end
section
open PySem PySem.W PyProof.Rows
set_option maxRecDepth 100000
set_option maxHeartbeats 8000000
theorem fillL11 : PySem.Challenge.rw_pg0172_02 = PySem.Challenge.rw_pg0172_02 ∧ Mine.hd.heap_1 = Mine.hd.heap_1 := by
  w_top off
  k_fill
  exact ⟨rfl, rfl⟩

theorem code_facts {n mm : Int} (hn0 : 0 ≤ n) (hn1 : n ≤ 4 * mm + 3) (hm0 : 0 < mm) : 0 ≤ n.fmod mm ∧ n.fmod mm < mm ∧ 0 ≤ n.fdiv mm ∧ n.fdiv mm ≤ 7 := by
  obtain ⟨a, b⟩ := fd_pos n hm0
  rw [← a, ← b]
  refine ⟨Int.emod_nonneg _ (by omega), Int.emod_lt_of_pos _ hm0, Int.ediv_nonneg hn0 (by omega), ?_⟩
  have : n / mm < 8 := Int.ediv_lt_of_lt_mul hm0 (by omega)
  omega
theorem ndig_small {x : Int} (h0 : 0 ≤ x) (h1 : x < 4611686018427387904) : ndig x 1 ≤ 1000000 := by
  have := (ndig_facts (x := x) (n := 1) h0 (by omega) (by decide)).2.1
  unfold ndig; omega
theorem code_ways (n : Int) {mm : Int} (hm0 : 0 < mm) : (-n).fdiv (-mm) = n.fdiv mm ∧ (-n).fmod (-mm) = -n.fmod mm ∧ (-n - 1).fdiv mm = -1 - n.fdiv mm ∧ (-n - 1).fmod mm = mm - 1 - n.fmod mm := by
  obtain ⟨a, b⟩ := fd_neg n mm
  obtain ⟨c, d⟩ := fd_not n hm0
  obtain ⟨e, f⟩ := fd_pos (-n - 1) hm0
  have hb : ∀ z, Builtin.bitNot z = -z - 1 := fun _ => rfl
  rw [hb, hb] at c d
  rw [e] at c
  rw [f] at d
  refine ⟨a, by omega, by omega, by omega⟩
theorem width_pow {mm : Int} {Wd : Nat} (hm0 : 0 < mm) (hW2 : ∀ v : Nat, v < Wd → (2 : Int) ^ v < mm) : (2 : Int) ^ Int.toNat (Wd : Int) ≤ 2 * mm := by
  rw [Int.toNat_natCast]
  cases Wd with
  | zero => rw [Int.pow_zero]; omega
  | succ k =>
    have := hW2 k (by omega)
    rw [pow_succ']
    omega
theorem vsz {vs : List Value} {ns : List Int} (h : IntsAre vs ns) (h2 : ns.length ≤ 1000000) : vs.toArray.size ≤ sizeLine := by
  rw [List.size_toArray, sizeLine_eq, h.length]; omega
section
variable {prog : Program} {w : World} {A : Around} {E : Value → Shared → Prop} {s : Shared} {h₀ : Heap} {L : Addr} {news : List (Addr × Obj)}
theorem lenV {l : Addr} {vs : List Value} {ns : List Int} {ep : Nat} {K : Nat} {Q : Value → Shared → Prop} (N : News h₀ L s.heap news) (hm : (l, W.listOf vs.toArray ep) ∈ news) (hI : IntsAre vs ns) (hK : ns.length = K) (hz : K ≤ 1000000)
    (h : ∀ t tk, Q (.int (K : Int) t) { s with toks := tk }) : wpAny (model prog w) A (call (.builtin "len") [.ref l]) Q E s := by
  have e : vs.toArray.size = K := by rw [List.size_toArray, hI.length, hK]
  refine PySem.Calls.call_len_list (News.isList N hm) (by omega) ?_
  exact e ▸ h _ _
end
section
variable {w : World} {p : Program} {loose : List Str} {mean : ExcName → Option Value} {mg mb : Str → Option Value}
  {dp un : Nat} {gd : Option (List Code)} {cn : Str} {cs : Scope} {a : Addr} {ccd : Value} {cl : List (Str × Addr)} {outer : List Env} {A₀ : Around} {base h₀ : Heap} {L : Addr} {m : Str → Option Value} {s : Shared} {Q E : Value → Shared → Prop} {news : List (Addr × Obj)}

local macro_rules | `(tactic| walk_at "call ref") => `(tactic| (k_here; k_dflt (refine' c_int_divmod _ _ _ _ _ _ _ _ _ _ _ _ _ _ _ _ _ _ _ _ _ ?_; walk_at "cc"; walk_at "il")))
local macro_rules | `(tactic| walk_at "call ref") => `(tactic| (k_here; (with_reducible show wpAny _ _ (call (Value.ref 42) _) _ _ _); refine Stop.to ?_))
local macro_rules | `(tactic| walk_at "call ref") => `(tactic| (k_here; (with_reducible show wpAny _ _ (call (Value.ref 132) _) _ _ _); refine Stop.to ?_))
local macro_rules | `(tactic| walk_at "call builtin:len") => `(tactic| refine Stop.to ?_)
local macro_rules | `(tactic| walk_at "subscriptTail Name Slice ref ref") => `(tactic| refine Stop.to ?_)
theorem frm2 {m m0 : Str → Option Value} {a b : Str} {va vb : Option Value} (h : ∀ z, z ≠ a → z ≠ b → m z = m0 z) (ha : m a = va) (hb : b ≠ a → m b = vb) : m = fun z => if z = a then va else if z = b then vb else m0 z := by
  funext z
  by_cases h1 : z = a
  · subst h1; simp only [if_true]; exact ha
  · by_cases h2 : z = b
    · subst h2; simp only [h1, if_true, if_false]; exact hb h1
    · simp only [h1, h2, if_false]; exact h z h1 h2
theorem frm3 {m m0 : Str → Option Value} {a b c : Str} {va vb vc : Option Value} (hab : a ≠ b) (hac : a ≠ c) (hbc : b ≠ c) (h : ∀ z, z ≠ a → z ≠ b → z ≠ c → m z = m0 z) (ha : a ≠ b → a ≠ c → m a = va) (hb : b ≠ a → b ≠ c → m b = vb) (hc : c ≠ a → c ≠ b → m c = vc) :
    m = fun z => if z = a then va else if z = b then vb else if z = c then vc else m0 z := by
  funext z
  by_cases h1 : z = a
  · subst h1; simp only [if_true]; exact ha hab hac
  · by_cases h2 : z = b
    · subst h2; simp only [h1, if_true, if_false]; exact hb h1 hbc
    · by_cases h3 : z = c
      · subst h3; simp only [h1, h2, if_true, if_false]; exact hc h1 h2
      · simp only [h1, h2, h3, if_false]; exact h z h1 h2 h3
theorem valEq {i j : Int} {t : Tok} (h : i = j) : some (Value.int i t) = some (Value.int j t) := by rw [h]
theorem capM2 {h₀ h : Heap} {L : Addr} {m : Str → Option Value} (F : Fr h₀ L h m) : ∃ m0, m = m0 := ⟨m, rfl⟩
/-- the rest's figures -/
def codeTail (mm : Int) (Wd : Nat) (r : Int) : List Int := 0 :: (if r < 2 ^ Wd - mm then (digI 2 (Wd - 1) r).reverse else (digI 2 Wd (r + 2 ^ Wd - mm)).reverse)
theorem codeA1 {mm r : Int} {Wd k : Nat} (hm0 : 0 < mm) (hk : Wd = k + 1) (h : (2 : Int) ^ k < mm) (f2 : r < mm) (hlt : r < 2 ^ Int.toNat (Wd : Int) - mm) : r < 2 ^ k := by
  subst hk
  rw [Int.toNat_natCast, pow_succ'] at hlt
  omega
theorem codeA2 {mm r : Int} {Wd k : Nat} (hk : Wd = k + 1) (hlt : r < 2 ^ Int.toNat (Wd : Int) - mm) : [0] ++ (digI 2 k r).reverse = codeTail mm Wd r := by
  subst hk
  rw [Int.toNat_natCast] at hlt
  unfold codeTail
  rw [if_pos hlt]
  rfl
theorem codeB2 {mm r : Int} {Wd : Nat} (hge : ¬ r < 2 ^ Int.toNat (Wd : Int) - mm) : [0] ++ (digI 2 Wd (r + 2 ^ Int.toNat (Wd : Int) - mm)).reverse = codeTail mm Wd r := by
  rw [Int.toNat_natCast] at *
  unfold codeTail
  rw [if_neg hge]
  rfl
theorem ndig_le {y : Int} {k : Nat} (h0 : 0 ≤ y) (h1 : y < 2 ^ k) : ndig y 1 ≤ k := by
  have := intBits_le h0 h1
  unfold ndig
  rw [Int.fdiv_eq_ediv_of_nonneg _ (by decide), Int.ediv_one]
  omega
theorem flat_rep {α : Type} (x : α) (k : Nat) : (List.replicate k [x]).flatten = List.replicate k x := by
  induction k with
  | zero => rfl
  | succ k ih => rw [List.replicate_succ, List.flatten_cons, ih]; rfl
theorem digI_zero (b : Int) : ∀ j, digI b j 0 = List.replicate j 0
  | 0 => rfl
  | j + 1 => by
    rw [List.replicate_succ]
    show (0 : Int) % b :: digI b j (0 / b) = _
    rw [Int.zero_emod, Int.zero_ediv, digI_zero b j]
theorem code_end {y : Int} {k : Nat} (h0 : 0 ≤ y) (h1 : y < 2 ^ k) : List.replicate (1 + (k : Int) - (ndig y 1 : Int)).toNat (0 : Int) ++ (digI (2 ^ Int.toNat 1) (ndig y 1) y).reverse = [0] ++ (digI 2 k y).reverse := by
  have e0 : (2 : Int) ^ Int.toNat 1 = 2 := rfl
  have hle := ndig_le h0 h1
  rw [e0]
  obtain ⟨j, hj⟩ : ∃ j, k = ndig y 1 + j := ⟨k - ndig y 1, by omega⟩
  have hlt : y < 2 ^ ndig y 1 := by
    have h3 := intBits_lt h0
    have e : ndig y 1 = Builtin.Int.intBits y := by
      unfold ndig
      rw [Int.fdiv_eq_ediv_of_nonneg _ (by decide), Int.ediv_one]
      omega
    rw [e]; exact h3
  have e1 := digI_split (b := 2) (by decide) j (ndig y 1) y
  rw [← hj, Int.emod_eq_of_lt h0 hlt, Int.ediv_eq_zero_of_lt h0 hlt, digI_zero] at e1
  rw [e1, List.reverse_append, List.reverse_replicate]
  have e2 : (1 + (k : Int) - (ndig y 1 : Int)).toNat = 1 + j := by omega
  rw [e2, Nat.add_comm, List.replicate_succ]
  rfl
/-- a number's writing -/
def codeI (mm : Int) (Wd : Nat) (n : Int) : List Int := List.replicate (n.fdiv mm).toNat 1 ++ codeTail mm Wd (n.fmod mm)
theorem addsz {vs ws : List Value} {ns ms : List Int} (h1 : IntsAre vs ns) (h2 : IntsAre ws ms) (hb : ns.length + ms.length ≤ 1000000) : vs.toArray.size + ws.toArray.size ≤ sizeLine := by
  rw [List.size_toArray, List.size_toArray, sizeLine_eq, h1.length, h2.length]; omega
theorem split_tail {P T : Prop} (main : T → P) (t : T) : P := main t
theorem frEq {h₀ h : Heap} {L : Addr} {m m' : Str → Option Value} (F : Fr h₀ L h m) (e : m = m') : Fr h₀ L h m' := e ▸ F



local macro_rules | `(tactic| walk_at "binaryOp Add ref ref") => `(tactic| refine Stop.to ?_)
theorem c_code {pre tl : List (Addr × Obj)} (B : Below A₀ base outer h₀) (F : Fr h₀ L s.heap m) (X : (Mine.hd.heap_1 w.params).In h₀) (N : News h₀ L s.heap (pre ++ tl)) (T : Top p loose mean mg mb h₀) (hk : cs.kind = .function)
    (C1 : CodeHd base 41 37) (C2 : CodeHd base 48 44) (TS : TabS tl) (hpre : PreOk pre)
    (hd : dp + 200 < recursionLimit) (hu : un + 1000 < cLine) (n mm way : Int) (tn tm tw : Tok) (hn0 : 0 ≤ n) (hn1 : n ≤ 4 * mm + 3) (hm0 : 0 < mm) (hm1 : mm ≤ 1000000)
    (Wd : Nat) (hW : Wd ≤ 40) (hW1 : mm ≤ 2 ^ Wd) (hW2 : ∀ v : Nat, v < Wd → (2 : Int) ^ v < mm)
    (ret : ∀ (h' : Heap) (tk' ep : Nat) (r : Addr) (vs : List Value) (tl' : List (Addr × Obj)), Fr h₀ L h' m → TabS tl' → Grow pre tl tl' → News h₀ L h' ((r, W.listOf vs.toArray ep) :: (pre ++ tl')) → (∀ p ∈ pre ++ tl', p.1 < r) → IntsAre vs (codeI mm Wd n) → Q (.ref r) { s with heap := h', toks := tk' }) :
    wpAny (model PySem.Challenge.rw_pg0172_02.row.prog w) (ktrTop dp un gd cn cs L a ccd cl outer) (call (.ref 139) [.int n tn, .int mm tm, .int way tw]) Q E s := by
  obtain ⟨f1, f2, f3, f4⟩ := code_facts hn0 hn1 hm0
  obtain ⟨e1, e2, e3, e4⟩ := code_ways n hm0
  have hP := width_pow hm0 hW2
  have hW3 : mm ≤ 2 ^ Int.toNat (Wd : Int) := by rw [Int.toNat_natCast]; exact hW1
  refine wpAny_call ?_
  k_dflt cell_enter
  rename_i g1 L1 h1 FG1 F1 N1 B1 X1 T1
  obtain ⟨m0, hm0'⟩ := capM2 F1
  refine' split_tail (T := ∀ (h2 : Heap) (tk tq tr : Nat) (ob : Addr × Obj) (tl1 : List (Addr × Obj)), Fr g1 L1 h2 (fun z => if z = Str.ofString "rest" then some (.int (n.fmod mm) tr) else if z = Str.ofString "quotient" then some (.int (n.fdiv mm) tq) else m0 z) → TabS tl1 → Grow pre tl tl1 → NT1 ob.2 → News g1 L1 h2 (ob :: (pre ++ tl1)) →
      wpAny (model PySem.Challenge.rw_pg0172_02.row.prog w) _ (call (.ref 132) [.int mm tm]) _ _ { s with heap := h2, toks := tk }) ?main ?tail
  case main =>
    intro hT
    k_steps
    all_goals unfold Stop
    all_goals subst hm0'
    all_goals refine hT _ _ _ _ _ _ (by (refine' frEq ?fY1 ?eY1; (case fY1 => assumption); (case eY1 => (refine' frm2 ?zY1 ?aY1 ?bY1; (case zY1 => (intro z h1 h2; simp only [h1, h2, if_false])); (case aY1 => first | (rw [if_pos rfl]; done) | (rw [if_pos rfl]; first | rfl | (refine valEq ?_; omega))); (case bY1 => (intro h1; first | (rw [if_neg h1, if_pos rfl]; done) | (rw [if_neg h1, if_pos rfl]; first | rfl | (refine valEq ?_; omega)) | (rw [if_neg h1, if_neg h1, if_pos rfl]; first | rfl | (refine valEq ?_; omega)))))))) (by assumption) (by assumption) (nt2 rfl) (by assumption)
  case tail =>
    clear e1 e2 e3 e4 F1 N1 
    intro h2 tk tq tr ob tl1 F2 TS2 G2 nt2' N2
    refine' c_width ?B ?F ?X ?N ?T ?hk ?hd ?hu _ _ ?hn _ ?hW ?hW1 ?hW2 ?_; (case N => exact N2); (case B => exact B1); (case F => exact F2); (case X => exact X1); (case T => exact T1); (case hk => rfl); (case hd => ktr_room); (case hu => ktr_units); (case hn => exact hm0); (case hW => exact hW); (case hW1 => exact hW1); (case hW2 => exact hW2); intro h3 tk3 tw3 F3 N3
    refine' split_tail (T := ∀ (h4 : Heap) (tk4 tw4 ty t1 : Nat) (k : Nat) (y : Int), 0 ≤ y → y < 2 ^ k → k ≤ 40 → [0] ++ (digI 2 k y).reverse = codeTail mm Wd (n.fmod mm) → Fr g1 L1 h4 (fun z => if z = Str.ofString "rest" then some (.int y ty) else if z = Str.ofString "width" then some (.int (k : Int) tw4) else if z = Str.ofString "quotient" then some (.int (n.fdiv mm) tq) else m0 z) → News g1 L1 h4 (ob :: (pre ++ tl1)) →
      wpAny (model PySem.Challenge.rw_pg0172_02.row.prog w) _ (call (.ref 42) [.int y ty, .int 1 t1]) _ _ { s with heap := h4, toks := tk4 }) ?main2 ?tail2
    case main2 =>
      intro hT
      subst hm0'
      k_steps
      all_goals unfold Stop
      · rename n.fmod mm < _ => hlt
        obtain ⟨k, hk⟩ : ∃ k : Nat, Wd = k + 1 := by
          cases Wd with
          | zero => exfalso; rw [Int.toNat_natCast, Int.pow_zero] at hlt; omega
          | succ k => exact ⟨k, rfl⟩
        refine' hT _ _ _ _ _ k _ ?p1 ?p2 ?p3 ?p4 ?p5 (by assumption)
        case p1 => exact f1
        case p2 => exact codeA1 hm0 hk (hW2 k (by omega)) f2 hlt
        case p3 => omega
        case p4 => exact codeA2 hk hlt
        case p5 => (refine' frEq ?fY2 ?eY2; (case fY2 => assumption); (case eY2 => (refine' frm3 ?abY2 ?acY2 ?bcY2 ?zY2 ?aY2 ?bY2 ?cY2; (case abY2 => decide +kernel); (case acY2 => decide +kernel); (case bcY2 => decide +kernel); (case zY2 => (intro z h1 h2 h3; simp only [h1, h2, h3, if_false])); (case aY2 => (intro h1 h2; simp only [h1, h2, if_true, if_false]; (try (first | rfl | (refine valEq ?_; omega))))); (case bY2 => (intro h1 h2; simp only [h1, h2, if_true, if_false]; (try (first | rfl | (refine valEq ?_; omega))))); (case cY2 => (intro h1 h2; simp only [h1, h2, if_true, if_false]; (try (first | rfl | (refine valEq ?_; omega))))))))
      · rename ¬ n.fmod mm < _ => hge
        refine' hT _ _ _ _ _ Wd _ ?p1 ?p2 ?p3 ?p4 ?p5 (by assumption)
        case p1 => omega
        case p2 => rw [Int.toNat_natCast]; omega
        case p3 => exact hW
        case p4 => exact codeB2 hge
        case p5 => (refine' frEq ?fY3 ?eY3; (case fY3 => assumption); (case eY3 => (refine' frm3 ?abY3 ?acY3 ?bcY3 ?zY3 ?aY3 ?bY3 ?cY3; (case abY3 => decide +kernel); (case acY3 => decide +kernel); (case bcY3 => decide +kernel); (case zY3 => (intro z h1 h2 h3; simp only [h1, h2, h3, if_false])); (case aY3 => (intro h1 h2; simp only [h1, h2, if_true, if_false]; (try (first | rfl | (refine valEq ?_; omega))))); (case bY3 => (intro h1 h2; simp only [h1, h2, if_true, if_false]; (try (first | rfl | (refine valEq ?_; omega))))); (case cY3 => (intro h1 h2; simp only [h1, h2, if_true, if_false]; (try (first | rfl | (refine valEq ?_; omega))))))))
    case tail2 =>
      clear N2 N3 F2 F3 hP hW3 f2 hn0 hn1
      intro h4 tk4 tw4 ty t1 k y hy0 hy1 hk1 hcT F4 N4
      subst hm0'
      have hy2 : y < 1099511627776 := Int.lt_of_lt_of_le hy1 (pow2_mono (b := 40) hk1)
      have hK := ndig_small hy0 (by omega)
      have hK2 : ndig y 1 ≤ k := ndig_le hy0 hy1
      refine' c_int2digits (pre := ob :: pre) ?B ?F ?X ?N ?T ?hk ?C1 ?TS ?po ?hd ?hu _ _ _ _ ?hx ?hx2 ?hn ?hn2 ?_; (case N => exact N4); (case B => exact B1); (case F => exact F4); (case X => exact X1); (case T => exact T1); (case hk => rfl); (case C1 => exact C1); (case TS => exact TS2); (case po => exact PreOk.cons nt2' hpre); (case hd => ktr_room); (case hu => ktr_units); (case hx => exact hy0); (case hx2 => omega); (case hn => decide); (case hn2 => decide); intro h5 tk5 r5 vs5 tl5 F5 TS5 G5 N5 I5
      k_steps
      unfold Stop
      (k_here; k_dflt (refine' lenV ?NY4 ?mY4 ?iY4 ?KY4 ?zY4 ?_; (case NY4 => k_asm); (case mY4 => k_mem); (case iY4 => assumption); (case KY4 => exact digI_length _ _ _); (case zY4 => assumption)); intro _ _)
      k_steps
      unfold Stop
      (k_here; (with_reducible show wpAny _ _ (binaryOp _ (Value.ref _) (Value.ref _)) _ _ _); k_dflt (refine' kmk_add_ints ?FY5 ?NY5 ?aY5 ?bY5 ?iY5 ?jY5 ?_ ?zY5; (case FY5 => k_asm); (case NY5 => k_asm); (case aY5 => kmk_list); (case bY5 => kmk_list); (case iY5 => assumption); (case jY5 => assumption); (case zY5 => (simp only [flat_rep, List.length_append, List.length_reverse, List.length_replicate, digI_length, sizeLine_eq]; omega))); intro D' ws' h' F' N' l1 hI'; (try k_lt l1); (try k_sweep))
      k_steps
      unfold Stop
      (k_here; (with_reducible show wpAny _ _ (subscriptTail _ (PySem.Expr.Slice none none (some _) _) (Value.ref _) (Value.ref _)) _ _ _); k_dflt (refine' krv_ints ?FY6 ?NY6 ?lY6 ?kY6 ?iY6 ?_ ?sY6 ?tY6 ?zY6; (case FY6 => k_asm); (case NY6 => k_asm); (case lY6 => kmk_list); (case kY6 => exact IsPart.int _ _); (case iY6 => assumption); (case sY6 => with_unfolding_all rfl); (case tY6 => kmk_pure); (case zY6 => (refine' vsz ?zaY6 ?zbY6; (case zaY6 => assumption); (case zbY6 => (rw [digI_length]; assumption))))); intro D' ws' h' F' N' l1 hI' hC'; (try k_lt l1); (try k_sweep))
      k_steps
      unfold Stop
      (k_here; (with_reducible show wpAny _ _ (binaryOp _ (Value.ref _) (Value.ref _)) _ _ _); k_dflt (refine' kmk_add_ints ?FY7 ?NY7 ?aY7 ?bY7 ?iY7 ?jY7 ?_ ?zY7; (case FY7 => k_asm); (case NY7 => k_asm); (case aY7 => kmk_list); (case bY7 => kmk_list); (case iY7 => assumption); (case jY7 => assumption); (case zY7 => (simp only [flat_rep, List.length_append, List.length_reverse, List.length_replicate, digI_length, sizeLine_eq]; omega))); intro D' ws' h' F' N' l1 hI'; (try k_lt l1); (try k_sweep))
      k_steps
      refine' ret _ _ _ _ _ _ ?r1 ?r2 ?rg ?r3 ?r4 ?r5
      case r1 => assumption
      case r2 => assumption
      case rg => exact G2.trans (G5.sub (fun p hp => .tail _ hp))
      case r3 => exact News.sub (by assumption) (by walk_at "mine sub2")
      case r4 => exact ltSubs (by assumption) (by walk_at "mine sub2")
      case r5 =>
        rename IntsAre _ _ => II
        simp only [flat_rep, List.append_assoc] at II
        rw [code_end hy0 hy1, hcT] at II
        exact II
end
end
section
open PySem PySem.W PyProof.Rows
theorem width_ex {mm : Int} (h1 : mm ≤ 1000000) : ∃ W : Nat, W ≤ 20 ∧ mm ≤ 2 ^ W ∧ ∀ v : Nat, v < W → (2 : Int) ^ v < mm := by
  have key : ∀ k : Nat, (∃ W : Nat, W ≤ k ∧ mm ≤ 2 ^ W ∧ ∀ v : Nat, v < W → (2 : Int) ^ v < mm) ∨ ∀ v : Nat, v ≤ k → (2 : Int) ^ v < mm := by
    intro k
    induction k with
    | zero =>
      by_cases h : (2 : Int) ^ 0 < mm
      · exact .inr fun v hv => by obtain rfl : v = 0 := by omega
                                  exact h
      · exact .inl ⟨0, Nat.le_refl _, by omega, fun v hv => absurd hv (Nat.not_lt_zero _)⟩
    | succ k ih =>
      rcases ih with ⟨W, a, b, c⟩ | h
      · exact .inl ⟨W, by omega, b, c⟩
      · by_cases h2 : (2 : Int) ^ (k + 1) < mm
        · refine .inr fun v hv => ?_
          rcases Nat.lt_or_ge v (k + 1) with h3 | h3
          · exact h v (by omega)
          · obtain rfl : v = k + 1 := by omega
            exact h2
        · exact .inl ⟨k + 1, Nat.le_refl _, by omega, fun v hv => h v (by omega)⟩
  rcases key 20 with h | h
  · exact h
  · have := h 20 (Nat.le_refl _)
    have e : (2 : Int) ^ 20 = 1048576 := by decide
    omega
/-- the number that bits say, the highest first -/
def valM (l : List Int) : Int := l.foldl (fun a b => 2 * a + b) 0
theorem valM_snoc (l : List Int) (b : Int) : valM (l ++ [b]) = 2 * valM l + b := by unfold valM; rw [List.foldl_append]; rfl
def Bits (l : List Int) : Prop := ∀ x ∈ l, x = 0 ∨ x = 1
theorem Bits.sub {l l' : List Int} (h : Bits l) (hs : ∀ x ∈ l', x ∈ l) : Bits l' := fun x hx => h x (hs x hx)
theorem valM_take_succ {l : List Int} {d : Nat} (h : d < l.length) : valM (l.take (d + 1)) = 2 * valM (l.take d) + l.getD d 0 := by
  rw [List.take_add_one, List.getElem?_eq_getElem h, Option.toList_some, valM_snoc, List.getD_eq_getElem?_getD, List.getElem?_eq_getElem h]
  rfl
theorem bits_getD {l : List Int} (h : Bits l) (d : Nat) : l.getD d 0 = 0 ∨ l.getD d 0 = 1 := by
  rw [List.getD_eq_getElem?_getD]
  cases e : l[d]? with
  | none => left; rfl
  | some x => exact h x (List.mem_of_getElem? e)
theorem valM_range {l : List Int} (h : Bits l) : ∀ d, d ≤ l.length → 0 ≤ valM (l.take d) ∧ valM (l.take d) < 2 ^ d
  | 0, _ => by simp [valM]
  | d + 1, hd => by
    obtain ⟨a, b⟩ := valM_range h d (by omega)
    rw [valM_take_succ (by omega), pow_succ']
    rcases bits_getD h d with e | e <;> omega
/-- what stands at a row's front: the number and where its writing ends -/
def frontI (mm : Int) (Wd : Nat) (row : List Int) : Option (Int × Nat) :=
  let O := (row.takeWhile (· == 1)).length
  let rest := row.drop (O + 1)
  if O = row.length then none else
  if 1 ≤ Wd ∧ rest.length < Wd - 1 then none else
  if 1 ≤ Wd ∧ valM (rest.take (Wd - 1)) < 2 ^ Wd - mm then some ((O : Int) * mm + valM (rest.take (Wd - 1)), O + 1 + (Wd - 1)) else
  if rest.length < Wd then none else some ((O : Int) * mm + valM (rest.take Wd) - (2 ^ Wd - mm), O + 1 + Wd)
def onesI (row : List Int) : Nat := (row.takeWhile (· == 1)).length
theorem ones_le : ∀ row : List Int, onesI row ≤ row.length
  | [] => Nat.le_refl _
  | x :: r => by
    have := ones_le r
    unfold onesI at *
    simp only [List.takeWhile_cons]
    split
    · simp only [List.length_cons]; omega
    · simp
theorem ones_one : ∀ (row : List Int) (i : Nat), i < onesI row → row.getD i 0 = 1
  | [], i, h => by simp [onesI] at h
  | x :: r, i, h => by
    unfold onesI at h
    simp only [List.takeWhile_cons] at h
    split at h
    · rename_i hx
      cases i with
      | zero => simpa using hx
      | succ i => simpa using ones_one r i (by unfold onesI; simpa using h)
    · simp at h
theorem ones_not : ∀ (row : List Int), onesI row < row.length → row.getD (onesI row) 0 ≠ 1
  | [], h => by simp at h
  | x :: r, h => by
    unfold onesI at h ⊢
    simp only [List.takeWhile_cons] at h ⊢
    split
    · rename_i hx
      rw [if_pos hx] at h
      have := ones_not r (by unfold onesI; simpa using h)
      unfold onesI at this
      simpa using this
    · rename_i hx
      simpa using hx
theorem rest_len (ns : List Int) (O : Nat) : (ns.drop (O + 1)).length = ns.length - (O + 1) := List.length_drop ..
section
variable {mm : Int} {Wd : Nat} {ns : List Int}
theorem front_none (h : onesI ns = ns.length) : frontI mm Wd ns = none := by unfold frontI; exact if_pos h
theorem front_A (h : onesI ns < ns.length) (hw : 1 ≤ Wd) (hl : onesI ns + 1 + (Wd - 1) ≤ ns.length) (hv : valM ((ns.drop (onesI ns + 1)).take (Wd - 1)) < 2 ^ Wd - mm) :
    frontI mm Wd ns = some ((onesI ns : Int) * mm + valM ((ns.drop (onesI ns + 1)).take (Wd - 1)), onesI ns + 1 + (Wd - 1)) := by
  show (if onesI ns = ns.length then none else _) = _
  rw [if_neg (by omega), if_neg (by rw [rest_len]; show ¬ (1 ≤ Wd ∧ ns.length - (onesI ns + 1) < Wd - 1); omega)]
  exact if_pos ⟨hw, hv⟩
theorem front_B (h : onesI ns < ns.length) (hw : 1 ≤ Wd) (hl : onesI ns + 1 + (Wd - 1) = ns.length) (hv : ¬ valM ((ns.drop (onesI ns + 1)).take (Wd - 1)) < 2 ^ Wd - mm) : frontI mm Wd ns = none := by
  show (if onesI ns = ns.length then none else _) = _
  rw [if_neg (by omega), if_neg (by rw [rest_len]; show ¬ (1 ≤ Wd ∧ ns.length - (onesI ns + 1) < Wd - 1); omega)]
  refine (if_neg (fun hh => hv hh.2)).trans ?_
  refine if_pos ?_
  rw [rest_len]; show ns.length - (onesI ns + 1) < Wd; omega
theorem front_D (h : onesI ns < ns.length) (hl : onesI ns + 1 + Wd ≤ ns.length) (hv : 1 ≤ Wd → ¬ valM ((ns.drop (onesI ns + 1)).take (Wd - 1)) < 2 ^ Wd - mm) :
    frontI mm Wd ns = some ((onesI ns : Int) * mm + valM ((ns.drop (onesI ns + 1)).take Wd) - (2 ^ Wd - mm), onesI ns + 1 + Wd) := by
  show (if onesI ns = ns.length then none else _) = _
  rw [if_neg (by omega), if_neg (by rw [rest_len]; show ¬ (1 ≤ Wd ∧ ns.length - (onesI ns + 1) < Wd - 1); omega)]
  refine (if_neg (fun hh => hv hh.1 hh.2)).trans ?_
  refine if_neg ?_
  rw [rest_len]; show ¬ ns.length - (onesI ns + 1) < Wd; omega
theorem front_G {d : Nat} (h : onesI ns < ns.length) (hd : d + 1 < Wd) (hl : onesI ns + 1 + d = ns.length) : frontI mm Wd ns = none := by
  show (if onesI ns = ns.length then none else _) = _
  rw [if_neg (by omega)]
  refine if_pos ⟨by omega, ?_⟩
  rw [rest_len]; show ns.length - (onesI ns + 1) < Wd - 1; omega
end
/-- a map with some names told apart -/
def M6 (m0 : Str → Option Value) : List (Str × Option Value) → Str → Option Value
  | [], z => m0 z
  | p :: r, z => if z = p.1 then p.2 else M6 m0 r z
theorem mapL_eq {m m0 : Str → Option Value} : ∀ (l : List (Str × Option Value)), (∀ z, (∀ p ∈ l, z ≠ p.1) → m z = m0 z) → (∀ p ∈ l, m p.1 = p.2) → m = M6 m0 l := by
  intro l hoff hon
  funext z
  have key : ∀ (k : List (Str × Option Value)), (∀ p ∈ k, m p.1 = p.2) → ((∀ p ∈ k, z ≠ p.1) → m z = m0 z) → m z = M6 m0 k z := by
    intro k
    induction k with
    | nil => intro _ h; exact h (fun p hp => nomatch hp)
    | cons q k ih =>
      intro h1 h2
      show m z = if z = q.1 then q.2 else M6 m0 k z
      by_cases hz : z = q.1
      · rw [if_pos hz, hz]; exact h1 q (.head _)
      · rw [if_neg hz]
        refine ih (fun p hp => h1 p (.tail _ hp)) fun h3 => h2 fun p hp => ?_
        rcases List.mem_cons.mp hp with rfl | hp
        · exact hz
        · exact h3 p hp
  exact key l hon (hoff z)
end
section
open PySem PySem.W PyProof.Rows
section
variable {prog : Program} {w : World} {A : Around} {E : Value → Shared → Prop} {s s' : Shared} {h₀ : Heap} {L I : Addr} {it : Obj} {env : Env} {body : List Stmt}
/-- a while's turn, the invariant and what comes behind as variables: the walk's terms stay small -/
theorem whGen {test : PySem.Expr} {J : Nat → (Str → Option Value) → List (Addr × Obj) → Prop} {Q : Flow → Shared → Prop} {n : Nat}
    (h : ∀ (J' : Nat → (Str → Option Value) → List (Addr × Obj) → Prop) (Q' : Flow → Shared → Prop), (∀ k m n, J k m n → J' k m n) → (∀ f s, Q f s → Q' f s) →
      wpAny (model prog w) A (isTrue test env (eval test env)) (fun b s₂ => if b = true then wpAny (model prog w) A (execs body env) (WhileStep2 h₀ L s J' Q' n) E s₂ else Q' .next s₂) E s') :
    wpAny (model prog w) A (isTrue test env (eval test env)) (fun b s₂ => if b = true then wpAny (model prog w) A (execs body env) (WhileStep2 h₀ L s J Q n) E s₂ else Q .next s₂) E s' := h J Q (fun _ _ _ h => h) (fun _ _ h => h)
/-- a for's turn likewise -/
theorem forGen {J : (Str → Option Value) → List (Addr × Obj) → Prop} {Q : Flow → Shared → Prop}
    (h : ∀ (J' : (Str → Option Value) → List (Addr × Obj) → Prop) (Q' : Flow → Shared → Prop), (∀ m n, J m n → J' m n) → (∀ f s, Q f s → Q' f s) →
      wpAny (model prog w) A (execs body env) (MTurn h₀ L I it J' s Q') E s') :
    wpAny (model prog w) A (execs body env) (MTurn h₀ L I it J s Q) E s' := h J Q (fun _ _ h => h) (fun _ _ h => h)
end
theorem genE {α : Type} {M : Model} {A : Around} {x : Sem α} {Q : α → Shared → Prop} {E : Value → Shared → Prop} {s : Shared} (h : ∀ E', wpAny M A x Q E' s) : wpAny M A x Q E s := h E
section
variable {M : Model} {A : Around} {E : Value → Shared → Prop} {s : Shared} {h₀ : Heap} {L a : Addr} {m : Str → Option Value} {cn : Str} {cs : Scope} {ccd : Value} {cl : List (Str × Addr)}
  {x : Str} {news : List (Addr × Obj)}
theorem storeIntG {n : Int} {t : Tok} {Q : Unit → Shared → Prop} (F : Fr h₀ L s.heap m) (N : News h₀ L s.heap news)
    (h : ∀ (h' : Heap) (t' : Tok) (tk' : Nat), Fr h₀ L h' (fun y => if y = x then some (.int n t') else m y) → News h₀ L h' news → Q () { s with heap := h', toks := tk' })
    (hk : cs.kind = .function := by rfl) (hx : (envX cn cs L a ccd cl).kindOf x = some .local := by rfl) : wpAny M A (storeName (envX cn cs L a ccd cl) x (.int n t)) Q E s :=
  storeX_L F N (fun h' F' N' => h h' t (s.toks + 1) F' N') hk hx
end
inductive StopIf : Prop where
  | yes : StopIf
theorem split_tail2 {P T : Prop} (main : T → P) (t : T) : P := main t
/-- a map's list with one name set: its place is kept, a new name comes last -/
def setL : List (Str × Option Value) → Str → Option Value → List (Str × Option Value)
  | [], a, v => [(a, v)]
  | p :: r, a, v => if p.1 = a then (a, v) :: r else p :: setL r a v
theorem upd_setL {m0 : Str → Option Value} {a : Str} {v : Option Value} : ∀ l : List (Str × Option Value), (fun z => if z = a then v else M6 m0 l z) = M6 m0 (setL l a v)
  | [] => rfl
  | p :: r => by
    funext z
    show (if z = a then v else if z = p.1 then p.2 else M6 m0 r z) = M6 m0 (if p.1 = a then (a, v) :: r else p :: setL r a v) z
    have ih := congrFun (upd_setL (m0 := m0) (a := a) (v := v) r) z
    by_cases h : p.1 = a
    · rw [if_pos h]
      show _ = if z = a then v else M6 m0 r z
      by_cases hz : z = a
      · rw [if_pos hz, if_pos hz]
      · rw [if_neg hz, if_neg hz, if_neg (by rw [h]; exact hz)]
    · rw [if_neg h]
      show _ = if z = p.1 then p.2 else M6 m0 (setL r a v) z
      rw [← ih]
      by_cases hz : z = a
      · have hz2 : ¬ z = p.1 := fun e => h (e ▸ hz)
        rw [if_pos hz, if_neg hz2, if_pos hz]
      · rw [if_neg hz]
        by_cases hz2 : z = p.1
        · rw [if_pos hz2, if_pos hz2]
        · rw [if_neg hz2, if_neg hz2, if_neg hz]
section
variable {M : Model} {A : Around} {E : Value → Shared → Prop} {s : Shared} {h₀ : Heap} {L a : Addr} {m0 : Str → Option Value} {l : List (Str × Option Value)} {cn : Str} {cs : Scope} {ccd : Value} {cl : List (Str × Addr)}
  {x : Str} {news : List (Addr × Obj)}
theorem storeIntS {n : Int} {t : Tok} {Q : Unit → Shared → Prop} (F : Fr h₀ L s.heap (M6 m0 l)) (N : News h₀ L s.heap news)
    (h : ∀ (h' : Heap) (t' : Tok) (tk' : Nat), Fr h₀ L h' (M6 m0 (setL l x (some (.int n t')))) → News h₀ L h' news → Q () { s with heap := h', toks := tk' })
    (hk : cs.kind = .function := by rfl) (hx : (envX cn cs L a ccd cl).kindOf x = some .local := by rfl) : wpAny M A (storeName (envX cn cs L a ccd cl) x (.int n t)) Q E s :=
  storeX_L F N (fun h' F' N' => h h' t (s.toks + 1) (upd_setL l ▸ F') N') hk hx
theorem storeS {v : Value} {Q : Unit → Shared → Prop} (F : Fr h₀ L s.heap (M6 m0 l)) (N : News h₀ L s.heap news)
    (h : ∀ (h' : Heap) (tk' : Nat), Fr h₀ L h' (M6 m0 (setL l x (some v))) → News h₀ L h' news → Q () { s with heap := h', toks := tk' })
    (hk : cs.kind = .function := by rfl) (hx : (envX cn cs L a ccd cl).kindOf x = some .local := by rfl) : wpAny M A (storeName (envX cn cs L a ccd cl) x v) Q E s :=
  storeX_L F N (fun h' F' N' => h h' (s.toks + 1) (upd_setL l ▸ F') N') hk hx
end
theorem M6_cons {m : Str → Option Value} {a : Str} {v v' : Option Value} {l l' : List (Str × Option Value)} (h : v = v') (h2 : M6 m l = M6 m l') : M6 m ((a, v) :: l) = M6 m ((a, v') :: l') := by
  subst h
  funext z
  show (if z = a then v else M6 m l z) = if z = a then v else M6 m l' z
  rw [h2]
theorem genQE {α : Type} {M : Model} {A : Around} {x : Sem α} {Q : α → Shared → Prop} {E : Value → Shared → Prop} {s : Shared} (h : ∀ (Q' : α → Shared → Prop), (∀ v s, Q v s → Q' v s) → wpAny M A x Q' (fun _ _ => False) s) : wpAny M A x Q E s :=
  wpAny_mono (h Q (fun _ _ h => h)) (fun _ _ h => h) (fun _ _ h => h.elim)
theorem M6.off {m0 : Str → Option Value} {x : Str} {v : Option Value} : ∀ {l : List (Str × Option Value)}, m0 x = v → (l.all fun p => !decide (x = p.1)) = true → M6 m0 l x = v
  | [], q, _ => q
  | p :: r, q, h => by
    rw [List.all_cons, Bool.and_eq_true, Bool.not_eq_true', decide_eq_false_iff_not] at h
    show (if x = p.1 then p.2 else M6 m0 r x) = v
    rw [if_neg h.1]
    exact M6.off q h.2
theorem Fr.upd {h₀ h : Heap} {L : Addr} {m0 : Str → Option Value} {l : List (Str × Option Value)} {x : Str} {v : Option Value} (F : Fr h₀ L h (fun y => if y = x then v else M6 m0 l y)) : Fr h₀ L h (M6 m0 (setL l x v)) := upd_setL l ▸ F
theorem app_sub {α : Type} {a b c : List α} (h : ∀ p ∈ b, p ∈ c) : ∀ p ∈ a ++ b, p ∈ a ++ c := fun p hp => (List.mem_append.mp hp).elim (List.mem_append_left _) fun x => List.mem_append_right _ (h p x)
theorem app_left_sub {α : Type} {l r m : List α} (h : ∀ p ∈ l ++ r, p ∈ m) : ∀ p ∈ l, p ∈ m := fun p hp => h p (List.mem_append_left _ hp)
theorem app_right_sub {α : Type} {l r m : List α} (h : ∀ p ∈ l ++ r, p ∈ m) : ∀ p ∈ r, p ∈ m := fun p hp => h p (List.mem_append_right _ hp)
theorem len7 (n : Nat) : min (min (Int.toNat 5) n - Int.toNat 1) (n - Int.toNat 1) + (0 + 1 + 1 + 1) ≤ 7 ∧ 3 ≤ min (min (Int.toNat 5) n - Int.toNat 1) (n - Int.toNat 1) + (0 + 1 + 1 + 1) :=
  ⟨Nat.add_le_add_right (m := 4) (Nat.le_trans (Nat.min_le_left _ _) (Nat.sub_le_sub_right (k := 1) (Nat.min_le_left 5 n) )) 3, Nat.le_add_left _ _⟩
end
section
open PySem PySem.W PyProof.Rows
set_option maxRecDepth 100000
set_option maxHeartbeats 8000000
theorem fillL12 : PySem.Challenge.rw_pg0172_02 = PySem.Challenge.rw_pg0172_02 ∧ Mine.hd.heap_1 = Mine.hd.heap_1 := by
  w_top off
  k_fill
  exact ⟨rfl, rfl⟩

section
variable {w : World} {p : Program} {loose : List Str} {mean : ExcName → Option Value} {mg mb : Str → Option Value}
  {dp un : Nat} {gd : Option (List Code)} {cn : Str} {cs : Scope} {a : Addr} {ccd : Value} {cl : List (Str × Addr)} {outer : List Env} {A₀ : Around} {base h₀ : Heap} {L : Addr} {m : Str → Option Value} {s : Shared} {Q E : Value → Shared → Prop} {news : List (Addr × Obj)}



local macro_rules | `(tactic| walk_at "exec While") => `(tactic| refine Stop.to ?_)
local macro_rules | `(tactic| walk_at "exec While BoolOp") => `(tactic| refine Stop.to ?_)
local macro_rules | `(tactic| walk_at "exec While Constant") => `(tactic| refine Stop.to ?_)
local macro_rules | `(tactic| walk_at "call ref") => `(tactic| (k_here; k_dflt (refine' c_width _ _ _ _ _ _ _ _ _ _ _ _ _ _ _ ?_; walk_at "cc"; intros)))

local macro_rules | `(tactic| walk_at "storeName") => `(tactic| (k_here; k_dflt (refine' storeIntG _ _ ?_; walk_at "cc"); intros; (try dsimp only); (try k_sweep)))




local macro_rules | `(tactic| walk_at "exec If") => `(tactic| (k_here; (rename StopIf => hStopIf); (with_reducible show wpAny _ _ (exec (PySem.Stmt.If (PySem.Expr.Compare (PySem.Expr.BinOp _ _ _ _) _ _ _) _ _ _) _) _ _ _); refine Stop.to ?_))
local macro_rules | `(tactic| walk_at "eval Name") => `(tactic| (k_here; k_dflt (refine' nameX_L ?F ?v ?_; (case F => k_asm); (case v => first | exact M6.off (by with_reducible assumption) rfl | rfl))))
local macro_rules | `(tactic| walk_at "storeName") => `(tactic| (k_here; k_dflt (refine' storeIntS _ _ ?_; walk_at "cc"); intros; (try k_sweep)))
local macro_rules | `(tactic| walk_at "mine me") => `(tactic| first | exact rfl | (refine' M6_cons ?e1 ?e2; (case e1 => first | exact rfl | (refine valEq ?_; omega)); (case e2 => walk_at "mine me")))
theorem c_front {l ep : Nat} {vs : List Value} {ns : List Int} (B : Below A₀ base outer h₀) (F : Fr h₀ L s.heap m) (X : (Mine.hd.heap_1 w.params).In h₀) (N : News h₀ L s.heap ((l, W.listOf vs.toArray ep) :: news)) (T : Top p loose mean mg mb h₀) (hk : cs.kind = .function)
    (hd : dp + 30 < recursionLimit) (hu : un + 150 < cLine) (hI : IntsAre vs ns) (hb : Bits ns) (hlen : ns.length ≤ 1000) (mm : Int) (tm : Tok) (hm0 : 0 < mm) (hm1 : mm ≤ 1000000)
    (Wd : Nat) (hW : Wd ≤ 40) (hW1 : mm ≤ 2 ^ Wd) (hW2 : ∀ v : Nat, v < Wd → (2 : Int) ^ v < mm)
    (ret0 : frontI mm Wd ns = none → ∀ (h' : Heap) (tk' : Nat), Fr h₀ L h' m → News h₀ L h' ((l, W.listOf vs.toArray ep) :: news) → Q .none { s with heap := h', toks := tk' })
    (ret1 : ∀ (x : Int) (k : Nat), frontI mm Wd ns = some (x, k) → ∀ (h' : Heap) (tk' t1 t2 : Nat) (r : Addr), Fr h₀ L h' m → News h₀ L h' ((r, { cls := .type "tuple", data := .seq #[.int x t1, .int (k : Int) t2] }) :: (l, W.listOf vs.toArray ep) :: news) → (∀ p ∈ (l, W.listOf vs.toArray ep) :: news, p.1 < r) → Q (.ref r) { s with heap := h', toks := tk' }) :
    wpAny (model PySem.Challenge.rw_pg0172_02.row.prog w) (ktrTop dp un gd cn cs L a ccd cl outer) (call (.ref 146) [.ref l, .int mm tm]) Q E s := by
  have hP := width_pow hm0 hW2
  have hW3 : mm ≤ 2 ^ Int.toNat (Wd : Int) := by rw [Int.toNat_natCast]; exact hW1
  refine wpAny_call ?_
  k_dflt cell_enter
  rename_i g1 L1 h1 FG1 F1 N1 B1 X1 T1
  k_steps
  unfold Stop
  rename News _ _ _ _ => NN
  rename Fr _ _ _ (fun _ => _) => FF
  obtain ⟨m0, hm0', F0⟩ := capM FF
  refine While_inv2 (fun k m' n' => ∃ (v : Nat) (t : Nat), v ≤ onesI ns ∧ k = onesI ns - v ∧ m' = (fun z => if z = Str.ofString "ones" then some (.int (v : Int) t) else m0 z) ∧ n' = (l, W.listOf vs.toArray ep) :: news) (n₀ := onesI ns) F0 NN ?h0 ?turn
  case h0 =>
    subst hm0'
    refine' ⟨0, ?t, ?a, ?b, map1is ?c, ?d⟩
    case c => exact rfl
    case d => rfl
    all_goals omega
  case turn =>
    rintro k m₁ news₁ h₁ tk₁ F₁ N₁ ⟨v, t, hv, rfl, rfl, rfl⟩
    subst hm0'
    have hv0 : (0 : Int) ≤ (v : Int) := by omega
    have hol := ones_le ns
    refine whGen fun J1' Q1' hJ1' hQ1' => ?_
    k_steps
    · rename ns.getD _ 0 = 1 => hone
      rw [Int.toNat_natCast] at hone
      have hvW : v < onesI ns := by
        rcases Nat.lt_or_ge v (onesI ns) with h | h
        · exact h
        · exfalso
          have e : v = onesI ns := by omega
          exact ones_not ns (by omega) (by rw [← e]; exact hone)
      refine' whEnd ?tF ?tN ?tn ?tJ
      case tF => assumption
      case tN => assumption
      case tJ => exact hJ1' _ _ _ ⟨v + 1, _, hvW, rfl, map1_up (a := Str.ofString "ones"), rfl⟩
      case tn => omega
    · rename ns.getD _ 0 ≠ 1 => hone
      rw [Int.toNat_natCast] at hone
      have hvW : v = onesI ns := by
        rcases Nat.lt_or_ge v (onesI ns) with h | h
        · exact absurd (ones_one ns v h) hone
        · omega
      have hOl : onesI ns < ns.length := by omega
      have hOl2 : onesI ns ≤ 1000 := by omega
      subst hvW
      clear hone
      refine hQ1' _ _ ?_
      k_steps
      · exfalso; omega
      unfold Stop
      rename News _ _ _ _ => N2
      rename Fr _ _ _ (fun _ => _) => F2
      obtain ⟨m1, hm1'⟩ := capM2 F2
      have q1 : m1 (Str.ofString "row") = some (.ref l) := by rw [← hm1']; rfl
      have q2 : m1 (Str.ofString "m") = some (.int mm tm) := by rw [← hm1']; rfl
      obtain ⟨tq3, q3⟩ : ∃ t, m1 (Str.ofString "width") = some (.int (Wd : Int) t) := ⟨_, by rw [← hm1']; rfl⟩
      obtain ⟨tq4, q4⟩ : ∃ t, m1 (Str.ofString "short") = some (.int (2 ^ Int.toNat (Wd : Int) - mm) t) := ⟨_, by rw [← hm1']; rfl⟩
      obtain ⟨tq5, q5⟩ : ∃ t, m1 (Str.ofString "ones") = some (.int (onesI ns : Int) t) := ⟨_, by rw [← hm1']; rfl⟩
      have hbd := valM_range (l := ns.drop (onesI ns + 1)) (hb.sub fun x hx => List.mem_of_mem_drop hx)
      have hrl := rest_len ns (onesI ns)
      have eW : (2 : Int) ^ Int.toNat (Wd : Int) = 2 ^ Wd := by rw [Int.toNat_natCast]
      refine While_inv2 (fun k m' n' => ∃ (d : Nat) (le pa : Int) (ta td tv tl tp : Nat) (ue : Option Value), d ≤ Wd ∧ k = Wd - d ∧ onesI ns + 1 + d ≤ ns.length ∧
        m' = M6 m1 [(Str.ofString "at", some (.int ((onesI ns : Int) + 1 + (d : Int)) ta)), (Str.ofString "depth", some (.int (d : Int) td)), (Str.ofString "value", some (.int (valM ((ns.drop (onesI ns + 1)).take d)) tv)), (Str.ofString "least", some (.int le tl)), (Str.ofString "passed", some (.int pa tp)), (Str.ofString "ending", ue)] ∧
        n' = (l, W.listOf vs.toArray ep) :: news ∧ (d < Wd ∨ Wd = 0 → le = 0 ∧ pa = 0) ∧ (d = Wd → 1 ≤ Wd → le = 2 * (2 ^ Int.toNat (Wd : Int) - mm) ∧ pa = 2 ^ Int.toNat (Wd : Int) - mm ∧ 2 ^ Int.toNat (Wd : Int) - mm ≤ valM ((ns.drop (onesI ns + 1)).take (Wd - 1)))) (n₀ := Wd) F2 N2 ?h02 ?turn2
      case h02 =>
        subst hm1'
        refine' ⟨0, 0, 0, _, _, _, _, _, _, ?qa, ?qb, ?qc, ?qd, ?qe, ?qf, ?qg⟩
        case qd =>
          refine' mapL_eq _ ?u1 ?u2
          case u1 => (intro z hz; first | (with_reducible rfl) | (dsimp only; with_reducible rfl) | (simp only [List.forall_mem_cons, List.not_mem_nil, false_imp_iff, implies_true, and_true, ne_eq] at hz; simp only [hz, if_false]))
          case u2 =>
            repeat (refine' List.forall_mem_cons.mpr ⟨?_, ?_⟩; focus (dsimp only; (repeat (first | (with_reducible exact if_pos rfl) | (refine (if_pos rfl).trans ?_; first | (with_reducible exact rfl) | (refine valEq ?_; first | omega | rfl)) | (refine (if_neg (by decide +kernel)).trans ?_))); (try exact rfl)))
            exact List.forall_mem_nil _
        case qe => rfl
        case qf => intro _; exact ⟨rfl, rfl⟩
        case qg => intro h1 h2; omega
        all_goals omega
      case turn2 =>
        rintro k m₂ news₂ h₂ tk₂ F₃ N₃ ⟨d, le, pa, ta, td, tv, tl, tp, ue, hdW, rfl, hdl, rfl, rfl, hA, hB⟩
        obtain ⟨hv0, hv1⟩ := hbd d (by omega)
        have hv2 : valM ((ns.drop (onesI ns + 1)).take d) < 2199023255552 := Int.lt_of_lt_of_le hv1 (pow2_mono (b := 41) (by omega))
        have hmul0 : 0 ≤ (onesI ns : Int) * mm := Int.mul_nonneg (by omega) (by omega)
        have hmul1 : (onesI ns : Int) * mm ≤ 1000 * 1000000 := Int.mul_le_mul (by omega) hm1 (by omega) (by omega)
        have hbit := bits_getD (hb) (onesI ns + 1 + d)
        have hgd : (ns.drop (onesI ns + 1)).getD d 0 = ns.getD (onesI ns + 1 + d) 0 := by rw [List.getD_eq_getElem?_getD, List.getElem?_drop, List.getD_eq_getElem?_getD]
        have hval2 : d < (ns.drop (onesI ns + 1)).length → valM ((ns.drop (onesI ns + 1)).take (d + 1)) = 2 * valM ((ns.drop (onesI ns + 1)).take d) + ns.getD ((onesI ns : Int) + 1 + (d : Int)).toNat 0 := fun h => by
          rw [valM_take_succ h, hgd, show ((onesI ns : Int) + 1 + (d : Int)).toNat = onesI ns + 1 + d by omega]
        generalize hval : valM ((ns.drop (onesI ns + 1)).take d) = val at *
        have hv3 : d = Wd → val < 2 ^ Int.toNat (Wd : Int) := fun e => by rw [eW, ← e]; exact hv1
        have hW0 : Wd = 0 → (2 : Int) ^ Int.toNat (Wd : Int) = 1 := fun e => by rw [eW, e]; rfl
        clear F2 N2
        refine whGen fun J2' Q2' hJ2' hQ2' => ?_
        have hA' : Stop (d < Wd ∨ Wd = 0 → le = 0 ∧ pa = 0) := hA
        have hB' : Stop (d = Wd → 1 ≤ Wd → le = 2 * (2 ^ Int.toNat (Wd : Int) - mm) ∧ pa = 2 ^ Int.toNat (Wd : Int) - mm ∧ 2 ^ Int.toNat (Wd : Int) - mm ≤ valM ((ns.drop (onesI ns + 1)).take (Wd - 1))) := hB
        have hv3' : Stop (d = Wd → val < 2 ^ Int.toNat (Wd : Int)) := hv3
        have hW0' : Stop (Wd = 0 → (2 : Int) ^ Int.toNat (Wd : Int) = 1) := hW0
        have hbit' : Stop (ns.getD (onesI ns + 1 + d) 0 = 0 ∨ ns.getD (onesI ns + 1 + d) 0 = 1) := hbit
        have hval2' : Stop (d < (ns.drop (onesI ns + 1)).length → valM ((ns.drop (onesI ns + 1)).take (d + 1)) = 2 * val + ns.getD ((onesI ns : Int) + 1 + (d : Int)).toNat 0) := hval2
        clear hA hB hv3 hW0 hbit hval2
        refine' split_tail2 (T := ∀ (h5 : Heap) (tk5 te : Nat) (en : Int), Stop (((d : Int) = Wd - 1 ∧ en = 2 ^ Int.toNat (Wd : Int) - mm) ∨ ((d : Int) ≠ Wd - 1 ∧ (d : Int) = Wd ∧ en = mm - (2 ^ Int.toNat (Wd : Int) - mm)) ∨ ((d : Int) ≠ Wd - 1 ∧ (d : Int) ≠ Wd ∧ en = 0)) →
            Fr g1 L1 h5 (M6 m1 [(Str.ofString "at", some (.int ((onesI ns : Int) + 1 + (d : Int)) ta)), (Str.ofString "depth", some (.int (d : Int) td)), (Str.ofString "value", some (.int val tv)), (Str.ofString "least", some (.int le tl)), (Str.ofString "passed", some (.int pa tp)), (Str.ofString "ending", some (.int en te))]) → News g1 L1 h5 ((l, W.listOf vs.toArray ep) :: news) →
            wpAny (model PySem.Challenge.rw_pg0172_02.row.prog w) _ (exec _ _) _ _ { s with heap := h5, toks := tk5 }) ?Zm ?Zt
        case Zm =>
          intro hT
          have hStopIf0 := StopIf.yes
          k_steps
          · unfold Stop
            refine' hT _ _ _ _ ?zaA ?zbA ?zcA
            case zcA => assumption
            case zbA => assumption
            case zaA => exact .inl ⟨by omega, rfl⟩
          · unfold Stop
            refine' hT _ _ _ _ ?zaB ?zbB ?zcB
            case zcB => assumption
            case zbB => assumption
            case zaB => exact .inr (.inl ⟨by omega, by omega, rfl⟩)
          · unfold Stop
            refine' hT _ _ _ _ ?zaC ?zbC ?zcC
            case zcC => assumption
            case zbC => assumption
            case zaC => exact .inr (.inr ⟨by omega, by omega, rfl⟩)
        case Zt =>
          intro h5 tk5 te en hen F5 N5
          k_steps
          · dsimp only [WhileStep2]
            refine hQ2' _ _ ?_
            k_steps
            rename News h₀ L _ _ => kN2
            rcases hen.to with ⟨h1, rfl⟩ | ⟨h1, h2, rfl⟩ | ⟨h1, h2, rfl⟩
            · have hd1 : d = Wd - 1 := by omega
              obtain ⟨rfl, rfl⟩ := hA'.to (by omega)
              have fr := front_A (mm := mm) hOl (Wd := Wd) (by omega) (by omega) (by rw [← hd1, hval, ← eW]; omega)
              rw [← hd1, hval] at fr
              rw [show ((onesI ns : Int) * mm + 0 + val - 0) = (onesI ns : Int) * mm + val by omega, show ((onesI ns : Int) + 1 + (d : Int)) = ((onesI ns + 1 + d : Nat) : Int) by omega] at kN2
              exact ret1 _ _ fr _ _ _ _ _ (by assumption) kN2 (by assumption)
            · have hd1 : d = Wd := by omega
              have hle : 1 ≤ Wd → le = 2 * (2 ^ Int.toNat (Wd : Int) - mm) ∧ pa = 2 ^ Int.toNat (Wd : Int) - mm := fun h => ⟨(hB'.to hd1 h).1, (hB'.to hd1 h).2.1⟩
              have fr : frontI mm Wd ns = some ((onesI ns : Int) * mm + val - (2 ^ Int.toNat (Wd : Int) - mm), onesI ns + 1 + d) := by
                have h := front_D (mm := mm) hOl (Wd := Wd) (by omega) (fun h1 => by have := (hB'.to hd1 h1).2.2; rw [eW] at this; omega)
                rw [← hd1, hval] at h
                rw [eW, ← hd1]
                exact h
              have hsum : pa - le = -(2 ^ Int.toNat (Wd : Int) - mm) := by
                rcases Nat.eq_zero_or_pos Wd with h0 | h0
                · have h3 := hW0'.to h0
                  have h4 := hA'.to (.inr h0)
                  have h5 : mm ≤ 1 := by rw [← h3]; exact hW3
                  clear hle h1 hmul0 hmul1 hv0 hv1 hv2
                  omega
                · have h3 := hle h0
                  clear hle h1 hmul0 hmul1 hv0 hv1 hv2
                  omega
              clear hle
              rw [show ((onesI ns : Int) * mm + pa + val - le) = (onesI ns : Int) * mm + val - (2 ^ Int.toNat (Wd : Int) - mm) by omega, show ((onesI ns : Int) + 1 + (d : Int)) = ((onesI ns + 1 + d : Nat) : Int) by omega] at kN2
              exact ret1 _ _ fr _ _ _ _ _ (by assumption) kN2 (by assumption)
            · exfalso
              have h4 := hA'.to (.inl (by omega))
              omega
          · dsimp only [WhileStep2]
            refine hQ2' _ _ ?_
            k_steps
            rcases hen.to with ⟨h1, rfl⟩ | ⟨h1, h2, rfl⟩ | ⟨h1, h2, rfl⟩
            · have hd1 : d = Wd - 1 := by omega
              have h4 := hA'.to (.inl (by omega))
              refine ret0 (front_B hOl (by omega) (by omega) (by rw [← hd1, hval, ← eW]; omega)) _ _ (by assumption) (by assumption)
            · exfalso
              have hdd : d = Wd := by omega
              have h3 := hv3'.to hdd
              rcases Nat.eq_zero_or_pos Wd with h0 | h0
              · have h4 := hW0'.to h0
                have h5 := hA'.to (.inr h0)
                omega
              · have h5 := (hB'.to hdd h0).1
                omega
            · refine ret0 (front_G (d := d) hOl (by omega) (by omega)) _ _ (by assumption) (by assumption)
          · have hdlt : d < Wd := by
              rcases hen.to with ⟨h1, rfl⟩ | ⟨h1, h2, rfl⟩ | ⟨h1, h2, rfl⟩
              · omega
              · exfalso
                have hdd : d = Wd := by omega
                have h3 := hv3'.to hdd
                rcases Nat.eq_zero_or_pos Wd with h0 | h0
                · have h4 := hW0'.to h0
                  have h5 := hA'.to (.inr h0)
                  omega
                · have h5 := (hB'.to hdd h0).1
                  omega
              · omega
            refine' whEnd ?tF ?tN ?tn ?tJ
            case tF => assumption
            case tN => assumption
            case tJ =>
              have hvs := (show (d < (ns.drop (onesI ns + 1)).length → valM ((ns.drop (onesI ns + 1)).take (d + 1)) = 2 * val + ns.getD ((onesI ns : Int) + 1 + (d : Int)).toNat 0) from hval2'.to) (by rw [hrl]; omega)
              rcases hen.to with ⟨h1, rfl⟩ | ⟨h1, h2, rfl⟩ | ⟨h1, h2, rfl⟩
              · obtain ⟨hl0, hp0⟩ := hA'.to (.inl (by omega))
                subst hl0 hp0
                refine' hJ2' _ _ _ ⟨d + 1, _, _, _, _, _, _, _, _, ?ja, rfl, ?jc, ?jd, rfl, ?jf, ?jg⟩
                case jd => walk_at "mine me"
                case ja => omega
                case jc => omega
                case jf => intro h; omega
                case jg =>
                  intro h1 h2
                  have hd1 : d = Wd - 1 := by omega
                  rw [← hd1, hval]
                  omega
              · exfalso; omega
              · obtain ⟨hl0, hp0⟩ := hA'.to (.inl (by omega))
                subst hl0 hp0
                refine' hJ2' _ _ _ ⟨d + 1, _, _, _, _, _, _, _, _, ?ka, rfl, ?kc, ?kd, rfl, ?kf, ?kg⟩
                case kd => walk_at "mine me"
                case ka => omega
                case kc => omega
                case kf => intro h; omega
                case kg => intro h1 h2; exfalso; omega
            case tn => omega
    · refine hQ1' _ _ ?_
      k_steps
      · exact ret0 (front_none (by omega)) _ _ (by assumption) (by assumption)
      · exfalso; omega
end
end
section
open PySem PySem.W PyProof.Rows
theorem ne_swap {I a : Addr} {o o' : Obj} {r : List (Addr × Obj)} (h : ∀ p ∈ (a, o) :: r, p.1 ≠ I) : ∀ p ∈ (a, o') :: r, p.1 ≠ I := fun p hp => by
  rcases List.mem_cons.mp hp with rfl | hp
  · exact h (a, o) (.head _)
  · exact h p (.tail _ hp)
theorem capN2 {h₀ h : Heap} {L : Addr} {n : List (Addr × Obj)} (N : News h₀ L h n) : ∃ n0, n = n0 := ⟨n, rfl⟩
theorem capF3 {h₀ h : Heap} {L : Addr} {m : Str → Option Value} (F : Fr h₀ L h m) : ∃ g l m0, g = h₀ ∧ l = L ∧ m = m0 := ⟨h₀, L, m, rfl, rfl, rfl⟩
theorem capIs {vs : List Value} {ns : List Int} (h : IntsAre vs ns) : ∃ vs' ns', vs' = vs ∧ ns' = ns ∧ IntsAre vs' ns' := ⟨vs, ns, rfl, rfl, h⟩
section
variable {prog : Program} {w : World} {A : Around} {s : Shared} {h₀ : Heap} {L : Addr} {m : Str → Option Value} {env : Env}
theorem compInv {elt : Expr} {x : Str} {scope : Scope} {cl : List (Str × Addr)} {S : List (Addr × Obj) → Prop} {P : Nat → Value → Prop} {Fin : List Value → List (Addr × Obj) → Prop} {n : Nat}
    (J : Nat → List Value → List (Addr × Obj) → Prop)
    (turn : ∀ i ys news v I oI C oC D m₂ h tk (E' : Value → Shared → Prop), i < n → J i ys news → P i v → LCg.NsObj oC m₂ → m₂ x = some v → Fr h₀ L h m → News h₀ L h ((I, oI) :: (C, oC) :: (D, LCg.lst ys) :: news) → LCg.Off3 I C D news → ((@Ne Nat I C) ∧ (@Ne Nat I D) ∧ (@Ne Nat C D)) →
      wpAny (model prog w) A (eval elt (compEnvC scope cl C env)) (LCg.CompEnd h₀ L m { s with heap := h, toks := tk } I oI C oC D (LCg.lst ys) S (fun y news' => J (i + 1) (ys ++ [y]) news')) E' { s with heap := h, toks := tk })
    (fin : ∀ ys news, J n ys news → Fin ys news) : ∀ k i ys news, i + k = n → J i ys news → LCg.CompRest prog w A h₀ L m env elt x scope cl s S P Fin k i ys news := by
  intro k
  induction k with
  | zero => intro i ys news hi hj; obtain rfl : i = n := by omega
            exact LCg.CompRest.zero (fin ys news hj)
  | succ k ih =>
    intro i ys news hi hj
    refine LCg.CompRest.succ ?_
    intro v I oI C oC D m₂ h tk E' hP hC hx F N off ne
    refine wpAny_mono (turn i ys news v I oI C oC D m₂ h tk E' (by omega) hj hP hC hx F N off ne) (fun y s₂ hc => ?_) fun _ _ e => e
    obtain ⟨h', tk', news', e, F', N', off', hS', hr⟩ := hc
    exact ⟨h', tk', news', e, F', N', off', hS', ih (i + 1) _ _ (by omega) hr⟩
end
end
section
open PySem PySem.W PyProof.Rows
theorem valM_rev : ∀ l : List Int, valM l.reverse = undig 2 l
  | [] => rfl
  | d :: r => by rw [List.reverse_cons, valM_snoc, valM_rev r]; simp only [undig]; omega
theorem valM_msb {k : Nat} {y : Int} (h0 : 0 ≤ y) (h1 : y < 2 ^ k) : valM (digI 2 k y).reverse = y := by
  rw [valM_rev, undig_digI (by decide) k h0 h1]
theorem bits_digI (k : Nat) (y : Int) : Bits (digI 2 k y) := fun x hx => by
  have := digI_nonneg (b := 2) (by decide) k y x hx
  omega
theorem msb_valM : ∀ (k : Nat) (l : List Int), l.length = k → Bits l → (digI 2 k (valM l)).reverse = l
  | 0, l, h, _ => by rw [List.length_eq_zero_iff.mp h]; rfl
  | k + 1, l, h, hb => by
    obtain ⟨l', b, rfl⟩ : ∃ l' b, l = l' ++ [b] := by
      have hne : l ≠ [] := by intro e; subst e; simp at h
      exact ⟨l.dropLast, l.getLast hne, (List.dropLast_concat_getLast hne).symm⟩
    have hl : l'.length = k := by simpa using h
    have hb' : Bits l' := hb.sub fun x hx => List.mem_append_left _ hx
    have ih := msb_valM k l' hl hb'
    rw [valM_snoc]
    simp only [digI, List.reverse_cons]
    rcases hb b (List.mem_append_right _ (.head _)) with e | e
    · have e1 : (2 * valM l' + b) / 2 = valM l' := by omega
      have e2 : (2 * valM l' + b) % 2 = b := by omega
      rw [e1, e2, ih]
    · have e1 : (2 * valM l' + b) / 2 = valM l' := by omega
      have e2 : (2 * valM l' + b) % 2 = b := by omega
      rw [e1, e2, ih]
theorem codeI_bits (mm : Int) (W : Nat) (n : Int) : Bits (codeI mm W n) := fun x hx => by
  unfold codeI codeTail at hx
  rcases List.mem_append.mp hx with h | h
  · exact .inr (List.eq_of_mem_replicate h)
  · rcases List.mem_cons.mp h with h | h
    · exact .inl h
    · split at h
      · exact bits_digI _ _ x (List.mem_reverse.mp h)
      · exact bits_digI _ _ x (List.mem_reverse.mp h)
theorem codeI_ne (mm : Int) (W : Nat) (n : Int) : codeI mm W n ≠ [] := by
  unfold codeI codeTail
  simp
theorem codeI_len {mm : Int} {W : Nat} {n : Int} (hn0 : 0 ≤ n) (hn1 : n ≤ 4 * mm + 3) (hm0 : 0 < mm) (hW : W ≤ 20) : (codeI mm W n).length ≤ 28 := by
  obtain ⟨_, _, f3, f4⟩ := code_facts hn0 hn1 hm0
  unfold codeI codeTail
  rw [List.length_append, List.length_replicate, List.length_cons]
  split <;> rw [List.length_reverse, digI_length] <;> omega
theorem ones_code (q : Nat) (t : List Int) : onesI (List.replicate q 1 ++ 0 :: t) = q := by
  unfold onesI
  induction q with
  | zero => simp
  | succ q ih => rw [List.replicate_succ, List.cons_append, List.takeWhile_cons]; simp [ih]
theorem drop_code (q : Nat) (t : List Int) : (List.replicate q (1 : Int) ++ 0 :: t).drop (q + 1) = t := by
  rw [List.drop_append, List.length_replicate]
  have : q + 1 - q = 1 := by omega
  rw [this, List.drop_of_length_le (by simp)]
  rfl
section
variable {mm : Int} {W : Nat}
theorem short_lt (hm0 : 0 < mm) (hW1 : mm ≤ 2 ^ W) (hW2 : ∀ v : Nat, v < W → (2 : Int) ^ v < mm) : 0 ≤ 2 ^ W - mm ∧ 2 ^ W - mm < mm ∧ (W = 0 → (2 : Int) ^ W - mm = 0) := by
  refine ⟨by omega, ?_, ?_⟩
  · cases W with
    | zero => rw [Int.pow_zero]; omega
    | succ k => have := hW2 k (by omega); rw [pow_succ']; omega
  · rintro rfl
    rw [Int.pow_zero] at *
    omega
theorem front_code {n : Int} (hn0 : 0 ≤ n) (hm0 : 0 < mm) (hW1 : mm ≤ 2 ^ W) (hW2 : ∀ v : Nat, v < W → (2 : Int) ^ v < mm) (rest : List Int) :
    frontI mm W (codeI mm W n ++ rest) = some (n, (codeI mm W n).length) := by
  obtain ⟨s0, s1, s2⟩ := short_lt hm0 hW1 hW2
  obtain ⟨a, b⟩ := fd_pos n hm0
  have r0 := Int.emod_nonneg n (Int.ne_of_gt hm0)
  have r1 := Int.emod_lt_of_pos n hm0
  have q0 := Int.ediv_nonneg hn0 (Int.le_of_lt hm0)
  have e := Int.emod_add_mul_ediv n mm
  rw [b] at r0 r1 e
  rw [a] at q0 e
  generalize hq : n.fdiv mm = q at *
  generalize hr : n.fmod mm = r at *
  have hqq : ((q.toNat : Nat) : Int) = q := Int.toNat_of_nonneg q0
  by_cases h : r < 2 ^ W - mm
  · have hc : codeI mm W n = List.replicate q.toNat 1 ++ 0 :: (digI 2 (W - 1) r).reverse := by
      unfold codeI codeTail; rw [hq, hr, if_pos h]
    have hWp : 1 ≤ W := by
      rcases Nat.eq_zero_or_pos W with h0 | h0
      · have := s2 h0; omega
      · exact h0
    have hlen : ((digI 2 (W - 1) r).reverse).length = W - 1 := by rw [List.length_reverse, digI_length]
    rw [hc, List.append_assoc, List.cons_append]
    have hO := ones_code q.toNat ((digI 2 (W - 1) r).reverse ++ rest)
    have hD := drop_code q.toNat ((digI 2 (W - 1) r).reverse ++ rest)
    have hrp : r < 2 ^ (W - 1) := by
      obtain ⟨k, rfl⟩ : ∃ k, W = k + 1 := ⟨W - 1, by omega⟩
      have := hW2 k (by omega)
      rw [pow_succ'] at h
      show r < 2 ^ k
      omega
    have hv : valM (((digI 2 (W - 1) r).reverse ++ rest).take (W - 1)) = r := by
      rw [List.take_left' hlen, valM_msb r0 hrp]
    have A := front_A (mm := mm) (Wd := W) (ns := List.replicate q.toNat 1 ++ 0 :: ((digI 2 (W - 1) r).reverse ++ rest)) (by rw [hO]; simp) hWp (by rw [hO]; simp [hlen]; omega) (by rw [hO, hD, hv]; exact h)
    rw [hO, hD, hv, hqq] at A
    rw [A]
    congr 1
    refine Prod.ext ?_ ?_
    · show q * mm + r = n
      rw [Int.mul_comm]; omega
    · simp [digI_length]; omega
  · have hc : codeI mm W n = List.replicate q.toNat 1 ++ 0 :: (digI 2 W (r + 2 ^ W - mm)).reverse := by
      unfold codeI codeTail; rw [hq, hr, if_neg h]
    have hlen : ((digI 2 W (r + 2 ^ W - mm)).reverse).length = W := by rw [List.length_reverse, digI_length]
    rw [hc, List.append_assoc, List.cons_append]
    have hO := ones_code q.toNat ((digI 2 W (r + 2 ^ W - mm)).reverse ++ rest)
    have hD := drop_code q.toNat ((digI 2 W (r + 2 ^ W - mm)).reverse ++ rest)
    have hv : valM (((digI 2 W (r + 2 ^ W - mm)).reverse ++ rest).take W) = r + 2 ^ W - mm := by
      rw [List.take_left' hlen, valM_msb (by omega) (by omega)]
    have A := front_D (mm := mm) (Wd := W) (ns := List.replicate q.toNat 1 ++ 0 :: ((digI 2 W (r + 2 ^ W - mm)).reverse ++ rest)) (by rw [hO]; simp) (by rw [hO]; simp [hlen]; omega) (by
      intro hWp
      rw [hO, hD]
      have hts := valM_take_succ (l := (digI 2 W (r + 2 ^ W - mm)).reverse ++ rest) (d := W - 1) (by rw [List.length_append, hlen]; omega)
      rw [show W - 1 + 1 = W by omega, hv] at hts
      have hbit : ((digI 2 W (r + 2 ^ W - mm)).reverse ++ rest).getD (W - 1) 0 = 0 ∨ ((digI 2 W (r + 2 ^ W - mm)).reverse ++ rest).getD (W - 1) 0 = 1 := by
        rw [List.getD_eq_getElem?_getD, List.getElem?_append_left (by rw [hlen]; omega), ← List.getD_eq_getElem?_getD]
        exact bits_getD ((bits_digI _ _).sub fun x hx => List.mem_reverse.mp hx) _
      omega)
    rw [hO, hD, hv, hqq] at A
    rw [A]
    congr 1
    refine Prod.ext ?_ ?_
    · show q * mm + (r + 2 ^ W - mm) - (2 ^ W - mm) = n
      rw [Int.mul_comm]; omega
    · simp [digI_length]; omega
theorem row_ones {row : List Int} (hb : Bits row) (h : onesI row < row.length) : row = List.replicate (onesI row) 1 ++ 0 :: row.drop (onesI row + 1) := by
  have h0 : row.getD (onesI row) 0 = 0 := (bits_getD hb (onesI row)).resolve_right (ones_not row h)
  have h1 : row.take (onesI row) = List.replicate (onesI row) 1 := by
    refine List.eq_replicate_iff.mpr ⟨by rw [List.length_take]; omega, fun b hb2 => ?_⟩
    obtain ⟨i, hi, rfl⟩ := List.mem_iff_getElem.mp hb2
    rw [List.length_take] at hi
    have := ones_one row i (by omega)
    rw [List.getD_eq_getElem?_getD, List.getElem?_eq_getElem (by omega)] at this
    rw [List.getElem_take]
    exact this
  have h2 : row.drop (onesI row) = 0 :: row.drop (onesI row + 1) := by
    rw [List.drop_eq_getElem_cons h]
    rw [List.getD_eq_getElem?_getD, List.getElem?_eq_getElem h] at h0
    have h3 : row[onesI row] = 0 := h0
    rw [h3]
  calc row = row.take (onesI row) ++ row.drop (onesI row) := (List.take_append_drop ..).symm
    _ = _ := by rw [h1, h2]
theorem code_of {q r : Int} (hq : 0 ≤ q) (r0 : 0 ≤ r) (r1 : r < mm) : codeI mm W (q * mm + r) = List.replicate q.toNat 1 ++ codeTail mm W r := by
  have hm0 : 0 < mm := by omega
  obtain ⟨a, b⟩ := fd_pos (q * mm + r) hm0
  unfold codeI
  rw [← a, ← b, Int.add_comm, Int.add_mul_ediv_right _ _ (Int.ne_of_gt hm0), Int.ediv_eq_zero_of_lt r0 r1, Int.add_mul_emod_self_right, Int.emod_eq_of_lt r0 r1, Int.zero_add]
theorem front_some {row : List Int} {x : Int} {k : Nat} (hb : Bits row) (hm0 : 0 < mm) (hW1 : mm ≤ 2 ^ W) (hW2 : ∀ v : Nat, v < W → (2 : Int) ^ v < mm) (h : frontI mm W row = some (x, k)) :
    0 ≤ x ∧ k = (codeI mm W x).length ∧ codeI mm W x <+: row := by
  obtain ⟨s0, s1, s2⟩ := short_lt hm0 hW1 hW2
  have hO1 := ones_le row
  have hO : onesI row < row.length := by
    rcases Nat.lt_or_ge (onesI row) row.length with h1 | h1
    · exact h1
    · rw [front_none (by omega)] at h; cases h
  have hrow := row_ones hb hO
  have hrl := rest_len row (onesI row)
  have hbr : Bits (row.drop (onesI row + 1)) := hb.sub fun y hy => List.mem_of_mem_drop hy
  generalize hR : row.drop (onesI row + 1) = R at *
  by_cases hW0 : 1 ≤ W ∧ R.length < W - 1
  · exfalso
    have e : frontI mm W row = none := by
      show (if onesI row = row.length then none else _) = _
      rw [if_neg (by omega)]
      refine if_pos ?_
      show 1 ≤ W ∧ (row.drop (onesI row + 1)).length < W - 1
      rw [hR]; exact hW0
    rw [e] at h; cases h
  by_cases hA : 1 ≤ W ∧ valM (R.take (W - 1)) < 2 ^ W - mm
  · have e := front_A (mm := mm) hO hA.1 (by omega) (by rw [hR]; exact hA.2)
    rw [hR] at e
    rw [e] at h
    have h1 := Option.some.inj h
    obtain ⟨rfl, rfl⟩ := Prod.mk.inj h1
    have hv := (valM_range hbr (W - 1) (by omega)).1
    have hv1 := (valM_range hbr (W - 1) (by omega)).2
    have hc : codeI mm W ((onesI row : Int) * mm + valM (R.take (W - 1))) = List.replicate (onesI row) 1 ++ 0 :: R.take (W - 1) := by
      rw [code_of (by omega) hv (by omega), Int.toNat_natCast]
      unfold codeTail
      rw [if_pos hA.2, msb_valM (W - 1) (R.take (W - 1)) (by rw [List.length_take]; omega) (hbr.sub fun y hy => List.mem_of_mem_take hy)]
    refine ⟨?_, ?_, ?_⟩
    · have := Int.mul_nonneg (Int.natCast_nonneg (onesI row)) (Int.le_of_lt hm0)
      omega
    · rw [hc, List.length_append, List.length_replicate, List.length_cons, List.length_take]
      omega
    · rw [hc]
      conv => rhs; rw [hrow]
      rw [List.prefix_append_right_inj, List.cons_prefix_cons]
      exact ⟨rfl, List.take_prefix ..⟩
  · by_cases hL : R.length < W
    · exfalso
      have hW3 : 1 ≤ W := by omega
      have e := front_B (mm := mm) (ns := row) hO hW3 (by omega) (by rw [hR]; exact fun hh => hA ⟨hW3, hh⟩)
      rw [e] at h; cases h
    · have e := front_D (mm := mm) (Wd := W) hO (by omega) (by rw [hR]; exact fun h1 hh => hA ⟨h1, hh⟩)
      rw [hR] at e
      rw [e] at h
      have h1 := Option.some.inj h
      obtain ⟨rfl, rfl⟩ := Prod.mk.inj h1
      obtain ⟨hv, hv1⟩ := valM_range hbr W (by omega)
      have hge : 2 ^ W - mm ≤ valM (R.take W) - (2 ^ W - mm) := by
        rcases Nat.eq_zero_or_pos W with h0 | h0
        · have := s2 h0
          omega
        · have hts := valM_take_succ (l := R) (d := W - 1) (by omega)
          rw [show W - 1 + 1 = W by omega] at hts
          have hbit := bits_getD hbr (W - 1)
          have : ¬ valM (R.take (W - 1)) < 2 ^ W - mm := fun hh => hA ⟨h0, hh⟩
          omega
      have hc : codeI mm W ((onesI row : Int) * mm + valM (R.take W) - (2 ^ W - mm)) = List.replicate (onesI row) 1 ++ 0 :: R.take W := by
        rw [show (onesI row : Int) * mm + valM (R.take W) - (2 ^ W - mm) = (onesI row : Int) * mm + (valM (R.take W) - (2 ^ W - mm)) by omega]
        rw [code_of (by omega) (by omega) (by omega), Int.toNat_natCast]
        unfold codeTail
        rw [if_neg (by omega), show valM (R.take W) - (2 ^ W - mm) + 2 ^ W - mm = valM (R.take W) by omega, msb_valM W (R.take W) (by rw [List.length_take]; omega) (hbr.sub fun y hy => List.mem_of_mem_take hy)]
      refine ⟨?_, ?_, ?_⟩
      · have := Int.mul_nonneg (Int.natCast_nonneg (onesI row)) (Int.le_of_lt hm0)
        omega
      · rw [hc, List.length_append, List.length_replicate, List.length_cons, List.length_take]
        omega
      · rw [hc]
        conv => rhs; rw [hrow]
        rw [List.prefix_append_right_inj, List.cons_prefix_cons]
        exact ⟨rfl, List.take_prefix ..⟩
/-- the front tells just the number whose writing stands there -/
theorem front_iff {row : List Int} {n : Int} (hb : Bits row) (hn0 : 0 ≤ n) (hm0 : 0 < mm) (hW1 : mm ≤ 2 ^ W) (hW2 : ∀ v : Nat, v < W → (2 : Int) ^ v < mm) :
    (codeI mm W n <+: row) ↔ ∃ k, frontI mm W row = some (n, k) := by
  constructor
  · rintro ⟨rest, rfl⟩
    exact ⟨_, front_code hn0 hm0 hW1 hW2 rest⟩
  · rintro ⟨k, h⟩
    exact (front_some hb hm0 hW1 hW2 h).2.2
end
end
section
open PySem PySem.W PyProof.Rows
/-- a mark's word -/
def wd (b : Int) : Str := PySem.Txt.mul (Str.ofString "a") (1 + b)
theorem a_is : Str.ofString "a" = ⟨#[97]⟩ := by decide +kernel
theorem fold_rep (c : Nat) : ∀ (k : Nat) (acc : Array Nat), ((List.replicate k #[c]).foldl (· ++ ·) acc).toList = acc.toList ++ List.replicate k c
  | 0, acc => by simp
  | k + 1, acc => by
    rw [List.replicate_succ, List.foldl_cons, fold_rep c k, List.replicate_succ]
    simp
theorem wd_tl {b : Int} (h : 0 ≤ b) : tl_ (wd b) = List.replicate (1 + b).toNat 97 := by
  unfold wd PySem.Txt.mul
  rw [if_neg (by omega), a_is]
  by_cases h1 : 1 + b = 1
  · have : b = 0 := by omega
    subst this
    rfl
  · rw [if_neg (by simp [h1, Str.length])]
    show (List.foldl (· ++ ·) (#[] : Array Nat) (List.replicate (1 + b).toNat #[97])).toList = _
    rw [fold_rep]
    simp
/-- a row of small marks -/
def Mk (l : List Int) : Prop := ∀ x ∈ l, 0 ≤ x ∧ x ≤ 10
theorem Bits.mk {l : List Int} (h : Bits l) : Mk l := fun x hx => by rcases h x hx with e | e <;> omega
theorem wd_inj {a b : Int} (ha : 0 ≤ a) (hb : 0 ≤ b) (h : wd a = wd b) : a = b := by
  have h1 := congrArg (fun s => (tl_ s).length) h
  simp only [wd_tl ha, wd_tl hb, List.length_replicate] at h1
  omega
theorem wds_free {l : List Int} (h : Mk l) {c : Nat} (hc : c ≠ 97) : ∀ x ∈ l.map wd, c ∉ tl_ x ∧ tl_ x ≠ [] := fun x hx => by
  obtain ⟨b, hb, rfl⟩ := List.mem_map.mp hx
  rw [wd_tl (h b hb).1]
  refine ⟨fun hm => hc (List.eq_of_mem_replicate hm), fun e => ?_⟩
  have := congrArg List.length e
  simp only [List.length_replicate, List.length_nil] at this
  have := (h b hb).1
  omega
theorem map_prefix {a : List Int} : ∀ {b : List Int}, Mk a → Mk b → (a.map wd <+: b.map wd ↔ a <+: b) := by
  induction a with
  | nil => intro b _ _; simp
  | cons x a ih =>
    intro b ha hb
    cases b with
    | nil => simp
    | cons y b =>
      simp only [List.map_cons, List.cons_prefix_cons, ih (fun z hz => ha z (.tail _ hz)) (fun z hz => hb z (.tail _ hz))]
      constructor
      · rintro ⟨h1, h2⟩; exact ⟨wd_inj (ha x (.head _)).1 (hb y (.head _)).1 h1, h2⟩
      · rintro ⟨h1, h2⟩; exact ⟨by rw [h1], h2⟩
theorem map_inj {a b : List Int} (ha : Mk a) (hb : Mk b) (h : a.map wd = b.map wd) : a = b := by
  have h1 := (map_prefix ha hb).mp (by rw [h]; exact List.prefix_refl _)
  have h2 := congrArg List.length h
  simp only [List.length_map] at h2
  exact h1.eq_of_length h2
/-- a module's name, a directory, a file, of marks -/
def modOf (l : List Int) : Str := PySem.Txt.join (Str.ofString ".") (l.map wd)
def dirOf (l : List Int) : Str := Str.ofString "/" ++ PySem.Txt.join (Str.ofString "/") (l.map wd)
def fileOf (l : List Int) : Str := Str.ofString "/" ++ PySem.Txt.join (Str.ofString "/") (l.map wd) ++ Str.ofString "/m.py"
theorem verdM_marks {c r : List Int} (hc : c ≠ []) (fc : Mk c) (fr : Mk r) : verdM (modOf c) (modOf r) = decide (c <+: r) := by
  unfold modOf
  rw [verdM_iff (by simpa using hc) (wds_free fc (by decide)) (wds_free fr (by decide)), decide_eq_decide, map_prefix fc fr]
theorem verdF_marks {c r : List Int} (hc : c ≠ []) (fc : Mk c) (fr : Mk r) : verdF (dirOf c) (fileOf r) = decide (c <+: r) := by
  unfold dirOf fileOf
  rw [verdF_iff (by simpa using hc) (wds_free fc (by decide)) (wds_free fr (by decide)), decide_eq_decide, map_prefix fc fr]
theorem modOf_inj {a b : List Int} (ha : Mk a) (hb : Mk b) (h : modOf a = modOf b) : a = b := by
  refine map_inj ha hb ?_
  unfold modOf at h
  rw [dot_is] at h
  exact join_inj (wds_free ha (by decide)) (wds_free hb (by decide)) h
theorem string_is : tl_ (Str.ofString "<string>") = [60, 115, 116, 114, 105, 110, 103, 62] := by decide +kernel
theorem enc_mem (c : Nat) : ∀ (l : List Str) (z : Nat), z ∈ enc c l → z = c ∨ ∃ x ∈ l, z ∈ tl_ x
  | [], z, h => by simp [enc] at h
  | x :: r, z, h => by
    simp only [enc, List.mem_append, List.mem_cons] at h
    rcases h with h | h | h
    · exact .inr ⟨x, .head _, h⟩
    · exact .inl h
    · rcases enc_mem c r z h with h | ⟨y, hy, h⟩
      · exact .inl h
      · exact .inr ⟨y, .tail _ hy, h⟩
theorem modOf_ne {l : List Int} (h : Mk l) : modOf l ≠ Str.ofString "<string>" := fun e => by
  have e1 := congrArg tl_ e
  rw [string_is] at e1
  unfold modOf at e1
  rw [dot_is] at e1
  by_cases hl : l = []
  · subst hl
    rw [tjoin] at e1
    simp [Str.join, tl_, Str.empty] at e1
  · have h2 := join_enc 46 (l.map wd) (by simpa using hl)
    have h3 : (60 : Nat) ∈ enc 46 (l.map wd) := by
      rw [← h2]
      refine List.mem_append_left _ ?_
      rw [e1]; simp
    rcases enc_mem _ _ _ h3 with h | ⟨x, hx, h⟩
    · omega
    · exact (wds_free (l := l) ‹_› (c := 60) (by decide) x hx).1 h
/-- what a reader remembers agrees with what it was told -/
def KvOk (code : List Int) (kvs : List (Str × Value)) : Prop := ∀ row : List Int, Mk row → ∀ v, valueAt kvs (modOf row) = some v → ∃ t, v = .int (b01 (decide (code <+: row))) t
theorem KvOk.init {code : List Int} {t : Tok} : KvOk code [(Str.ofString "<string>", .int 1 t)] := fun row hr v h => by
  unfold valueAt at h
  rw [List.find?_cons_of_neg (by simpa using Ne.symm (modOf_ne hr))] at h
  cases h
theorem KvOk.store {code row : List Int} {kvs : List (Str × Value)} {t : Tok} (h : KvOk code kvs) (hr : Mk row) (hv : valueAt kvs (modOf row) = none) : KvOk code (stored kvs (modOf row) (.int (b01 (decide (code <+: row))) t)) := fun row' hr' v hq => by
  rw [stored_absent hv] at hq
  unfold valueAt at hq
  rw [List.find?_append] at hq
  cases e : kvs.find? (fun kv => kv.1 = modOf row') with
  | some kv =>
    rw [e] at hq
    exact h row' hr' v (by unfold valueAt; rw [e]; exact hq)
  | none =>
    rw [e] at hq
    by_cases h2 : modOf row = modOf row'
    · obtain rfl := modOf_inj hr hr' h2
      refine ⟨t, ?_⟩
      simpa using hq.symm
    · simp [h2] at hq
/-- a reader: its addresses and objects -/
structure Rd where
  x : Nat
  dx : Nat
  S : Nat
  l : Nat
  ig : Nat
  n : Nat
  t1 : Nat
  t2 : Nat
  t3 : Nat
  io : Obj
  so : Obj
  lo : Obj
abbrev Rd.objs (P : Params) (r : Rd) : List (Addr × Obj) := (r.ig, r.io) :: rdObjs P r.t1 r.t2 r.t3 r.x r.dx r.S r.l r.ig r.n r.so r.lo []
/-- a reader told the code, by name where n is even, by directory where it is odd -/
def RdOk (prog : Program) (w : World) (B : Nat) (code : List Int) (n : Int) (r : Rd) : Prop :=
  (∃ kvs, r.io.IsDictOf (PySem.strKind prog w) kvs ∧ KvOk code kvs ∧ kvs.length ≤ B) ∧ (r.ig == sysModules) = false ∧
  ((n % 2 = 0 ∧ ∃ tm, r.so = set1 (ledOf w) ((PySem.strKind prog w).hash (modOf code)) (.str (modOf code) tm) ∧ r.lo = W.listOf #[] 0) ∨
   (n % 2 ≠ 0 ∧ ∃ led td epd, r.so = set0 led ∧ r.lo = W.listOf [Value.str (dirOf code) td].toArray epd))
def RdsOk (prog : Program) (w : World) (B : Nat) (f : Int → List Int) : List Rd → List Int → Prop
  | [], [] => True
  | r :: rs, n :: k => RdOk prog w B (f n) n r ∧ RdsOk prog w B f rs k
  | _, _ => False
theorem RdsOk.snoc {prog : Program} {w : World} {B : Nat} {f : Int → List Int} {r : Rd} {n : Int} (h : RdOk prog w B (f n) n r) : ∀ {rs : List Rd} {k : List Int}, RdsOk prog w B f rs k → RdsOk prog w B f (rs ++ [r]) (k ++ [n])
  | [], [], _ => ⟨h, trivial⟩
  | _ :: _, _ :: _, x => ⟨x.1, RdsOk.snoc h x.2⟩
theorem RdsOk.length {prog : Program} {w : World} {B : Nat} {f : Int → List Int} : ∀ {rs : List Rd} {k : List Int}, RdsOk prog w B f rs k → rs.length = k.length
  | [], [], _ => rfl
  | _ :: _, _ :: _, x => by simp [RdsOk.length x.2]
/-- the readers' objects -/
abbrev rdsObjs (P : Params) (rs : List Rd) : List (Addr × Obj) := rs.flatMap (Rd.objs P)
/-- a reader's record is none of its other objects -/
def Rd.Own (r : Rd) : Prop := @Ne Nat r.dx r.ig ∧ @Ne Nat r.x r.ig ∧ @Ne Nat r.S r.ig ∧ @Ne Nat r.l r.ig
def RdRel (P : Params) (r r' : Rd) : Prop := (∀ p ∈ r'.objs P, @Ne Nat p.1 r.ig) ∧ ∀ p ∈ r.objs P, @Ne Nat p.1 r'.ig
/-- each reader's record lies apart from all else -/
def RdsApart (P : Params) (rs : List Rd) (base : List (Addr × Obj)) : Prop := rs.Pairwise (RdRel P) ∧ (∀ r ∈ rs, r.Own) ∧ ∀ r ∈ rs, ∀ p ∈ base, @Ne Nat p.1 r.ig
theorem RdsApart.nil {P : Params} {base : List (Addr × Obj)} : RdsApart P [] base := ⟨List.Pairwise.nil, (fun r hr => nomatch hr), fun r hr => nomatch hr⟩
/-- none of a reader's five addresses -/
def Off5 (r : Rd) (q : Nat) : Prop := @Ne Nat q r.dx ∧ @Ne Nat q r.x ∧ @Ne Nat q r.S ∧ @Ne Nat q r.l ∧ @Ne Nat q r.ig
theorem RdsApart.snoc {P : Params} {rs : List Rd} {r : Rd} {base : List (Addr × Obj)} (h : RdsApart P rs base) (ho : r.Own) (h1 : ∀ p ∈ rdsObjs P rs, Off5 r p.1) (h2 : ∀ p ∈ base, Off5 r p.1) : RdsApart P (rs ++ [r]) base := by
  obtain ⟨a, b, c⟩ := h
  refine ⟨List.pairwise_append.mpr ⟨a, List.pairwise_singleton _ _, ?_⟩, ?_, ?_⟩
  · intro r0 hr0 r1 hr1
    rw [List.mem_singleton.mp hr1]
    have hin : ∀ p ∈ r0.objs P, p ∈ rdsObjs P rs := fun p hp => List.mem_flatMap.mpr ⟨r0, hr0, hp⟩
    refine ⟨fun p hp => ?_, fun p hp => (h1 p (hin p hp)).2.2.2.2⟩
    obtain ⟨q1, q2, q3, q4, q5⟩ := h1 (r0.ig, r0.io) (hin _ (.head _))
    simp only [Rd.objs, List.mem_cons, List.not_mem_nil, or_false] at hp
    rcases hp with e | e | e | e | e <;> subst e
    · exact Ne.symm q5
    · exact Ne.symm q2
    · exact Ne.symm q1
    · exact Ne.symm q3
    · exact Ne.symm q4
  · intro r0 hr0
    rcases List.mem_append.mp hr0 with h3 | h3
    · exact b r0 h3
    · rw [List.mem_singleton.mp h3]; exact ho
  · intro r0 hr0 p hp
    rcases List.mem_append.mp hr0 with h3 | h3
    · exact c r0 h3 p hp
    · rw [List.mem_singleton.mp h3]; exact (h2 p hp).2.2.2.2
theorem lenSl : (Str.ofString "/").length = 1 := by decide +kernel
theorem lenSd : (Str.ofString "/.").length = 2 := by decide +kernel
theorem lenMp : (Str.ofString "/m.py").length = 5 := by decide +kernel
theorem lenDot : (Str.ofString ".").length = 1 := by decide +kernel
end
section
open PySem PySem.W PyProof.Rows
theorem len_tl (s : Str) : s.length = (tl_ s).length := by simp [Str.length, tl_]
theorem wd_len {b : Int} (h : 0 ≤ b ∧ b ≤ 10) : 1 ≤ (wd b).length ∧ (wd b).length ≤ 11 := by
  rw [len_tl, wd_tl h.1, List.length_replicate]; omega
theorem wds_len {l : List Int} (h : Mk l) : ((l.map wd).map (·.length)).sum ≤ 11 * l.length := by
  induction l with
  | nil => simp
  | cons x l ih =>
    have := wd_len (h x (.head _))
    have := ih fun z hz => h z (.tail _ hz)
    simp only [List.map_cons, List.sum_cons, List.length_cons]
    omega
theorem join_len {l : List Int} (h : Mk l) {c : Str} (hc : c.length = 1) : (PySem.Txt.join c (l.map wd)).length ≤ 12 * l.length := by
  have h1 := tjoin_len c (l.map wd)
  have h2 := wds_len h
  rw [hc, List.length_map] at h1
  omega
theorem enc_append (c : Nat) (a b : List Str) : enc c (a ++ b) = enc c a ++ enc c b := by
  induction a with
  | nil => rfl
  | cons x a ih => simp [enc, ih]
theorem slashdot_is : tl_ (Str.ofString "/.") = [47, 46] := by decide +kernel
theorem slash_tl : tl_ (Str.ofString "/") = [47] := by decide +kernel
theorem dot_tl : tl_ (Str.ofString ".") = [46] := by decide +kernel
theorem dotdot_tl : tl_ (Str.ofString "..") = [46, 46] := by decide +kernel
/-- the directory of a row of marks, as it is told -/
def toldDir (l : List Int) : Str := Str.ofString "/" ++ PySem.Txt.join (Str.ofString "/") (l.map wd) ++ Str.ofString "/."
theorem told_tl (l : List Int) : tl_ (toldDir l) = 47 :: (tl_ (PySem.Txt.join (Str.ofString "/") (l.map wd)) ++ [47, 46]) := by
  unfold toldDir
  rw [tl_append, tl_append, slashdot_is, slash_tl]
  simp
theorem mk_of {s : Str} {l : List Nat} (h : (s == (⟨l.toArray⟩ : Str)) = true) : tl_ s = l := by
  have := eq_of_beq h
  rw [this]
theorem join_head {l : List Int} (h : Mk l) (hne : l ≠ []) : ∃ r, tl_ (PySem.Txt.join (Str.ofString "/") (l.map wd)) = 97 :: r := by
  have e := join_enc 47 (l.map wd) (by simpa using hne)
  rw [← slash_is] at e
  cases l with
  | nil => exact absurd rfl hne
  | cons x l =>
    have hx := (h x (.head _)).1
    simp only [List.map_cons, enc, wd_tl hx] at e
    obtain ⟨k, hk⟩ : ∃ k, (1 + x).toNat = k + 1 := ⟨x.toNat, by omega⟩
    rw [hk, List.replicate_succ] at e
    cases hj : tl_ (PySem.Txt.join (Str.ofString "/") (List.map wd (x :: l))) with
    | nil => simp only [List.map_cons] at hj; rw [hj] at e; simp at e
    | cons y ys =>
      simp only [List.map_cons] at hj
      rw [hj] at e
      simp only [List.cons_append, List.cons.injEq] at e
      exact ⟨ys, by rw [e.1]⟩
theorem dir_facts {l : List Int} (h : Mk l) (hne : l ≠ []) (hlen : l.length ≤ 30) :
    (toldDir l).length ≤ 100000 ∧ 1 ≤ (toldDir l).length ∧ (PySem.Txt.slice (toldDir l) none (some 1) != Str.ofString "/") = false ∧ (PySem.Txt.slice (toldDir l) (some 1) (some 2) != Str.ofString "/") = true ∧
    PySem.Txt.split (PySem.Txt.slice (toldDir l) (some 1) none) (Str.ofString "/") = l.map wd ++ [Str.ofString "."] ∧ (∀ c ∈ l.map wd, 1 ≤ c.length ∧ c ≠ Str.ofString "." ∧ c ≠ Str.ofString "..") ∧ (l.map wd).length ≤ 100000 ∧ (∀ c ∈ l.map wd, c.length ≤ 100000) ∧
    ((l.map wd).map (·.length)).sum + (l.map wd).length * 64 ≤ 1000000 := by
  obtain ⟨r, hr⟩ := join_head h hne
  have ht := told_tl l
  have hjl := join_len h (c := Str.ofString "/") (by decide +kernel)
  have hL : (tl_ (toldDir l)).length = (tl_ (PySem.Txt.join (Str.ofString "/") (l.map wd))).length + 3 := by rw [ht]; simp
  have hL2 : (toldDir l).length = (PySem.Txt.join (Str.ofString "/") (l.map wd)).length + 3 := by rw [len_tl, hL, ← len_tl]
  have hpos : 1 ≤ (PySem.Txt.join (Str.ofString "/") (l.map wd)).length := by rw [len_tl, hr]; simp
  have w1 : ∀ c ∈ l.map wd, 1 ≤ c.length ∧ c.length ≤ 11 := fun c hc => by
    obtain ⟨b, hb, rfl⟩ := List.mem_map.mp hc
    exact wd_len (h b hb)
  refine ⟨by omega, by omega, ?_, ?_, ?_, ?_, by rw [List.length_map]; omega, fun c hc => by have := (w1 c hc).2; omega, ?_⟩
  · have e := mk_of (slice_closes_to (x := toldDir l) (j := 1) ⟨by decide, by rw [hL]; omega⟩)
    have e2 : PySem.Txt.slice (toldDir l) none (some 1) = Str.ofString "/" := by
      refine str_ext ?_
      rw [e, slash_tl, show (toldDir l).cps.toList = tl_ (toldDir l) from rfl, ht]
      rfl
    rw [e2]; simp
  · have e := mk_of (slice_closes (x := toldDir l) (i := 1) (j := 2) ⟨by decide, by decide, by rw [hL, hr]; simp; omega⟩)
    have e2 : PySem.Txt.slice (toldDir l) (some 1) (some 2) ≠ Str.ofString "/" := fun hh => by
      have := congrArg tl_ hh
      rw [e, slash_tl, show (toldDir l).cps.toList = tl_ (toldDir l) from rfl, ht, hr] at this
      simp at this
    simpa using e2
  · have e := slice_from_eq (x := toldDir l) (i := 1) (b := (toldDir l).length) (by decide) (by omega) rfl
    have hws : l.map wd ≠ [] := by simpa using hne
    have e1 := join_enc 47 (l.map wd) hws
    have e2 := join_enc 47 (l.map wd ++ [Str.ofString "."]) (by simp)
    rw [enc_append, ← e1] at e2
    have e3 : tl_ (PySem.Txt.join ⟨#[47]⟩ (l.map wd ++ [Str.ofString "."])) = tl_ (PySem.Txt.join ⟨#[47]⟩ (l.map wd)) ++ [47, 46] := by
      have : tl_ (PySem.Txt.join ⟨#[47]⟩ (l.map wd ++ [Str.ofString "."])) ++ [47] = (tl_ (PySem.Txt.join ⟨#[47]⟩ (l.map wd)) ++ [47, 46]) ++ [47] := by
        rw [e2]
        simp [enc, dot_tl]
      exact List.append_cancel_right this
    have e4 : PySem.Txt.slice (toldDir l) (some 1) none = PySem.Txt.join ⟨#[47]⟩ (l.map wd ++ [Str.ofString "."]) := by
      refine str_ext ?_
      rw [e, e3, ← slash_is]
      show (((tl_ (toldDir l)).drop 1).take ((toldDir l).length - 1 : Int).toNat) = _
      rw [ht, List.drop_succ_cons, List.drop_zero]
      refine List.take_of_length_le ?_
      rw [List.length_append, ← len_tl, hL2]
      simp
      omega
    rw [e4, slash_is]
    refine split_join (by simp) fun x hx => ?_
    rcases List.mem_append.mp hx with hx | hx
    · exact (wds_free h (by decide) x hx).1
    · rw [List.mem_singleton.mp hx, dot_tl]; decide
  · intro c hc
    have hf := (wds_free h (c := 46) (by decide) c hc).1
    refine ⟨(w1 c hc).1, fun e => hf ?_, fun e => hf ?_⟩
    · rw [e, dot_tl]; decide
    · rw [e, dotdot_tl]; decide
  · have := wds_len h
    rw [List.length_map]
    omega
end
section
open PySem PySem.W PyProof.Rows PySem.Calls
section
variable {prog : Program} {w : World} {A : Around} {E : Value → Shared → Prop} {s : Shared} {h₀ : Heap} {L : Addr} {news : List (Addr × Obj)}
theorem itemV {value slice : PySem.Expr} {l : Addr} {vs : List Value} {ep : Nat} {k : Int} {u : Tok} {i : Nat} {v : Value} {Q : Value → Shared → Prop} (N : News h₀ L s.heap news) (hm : (l, W.listOf vs.toArray ep) ∈ news) (hk : k = (i : Int)) (hx : vs[i]? = some v) (hi : i ≤ 1000000) (h : Q v s)
    (hs : subscripted slice false (.ref l) (.int k u) = operate [.ref l, .int k u] (getItem (.ref l) (.int k u)) := by with_unfolding_all rfl) :
    wpAny (model prog w) A (subscriptTail value slice (.ref l) (.int k u)) Q E s := by
  subst hk
  have hl := News.isList N hm
  refine tail_any hl.typeIs slot_list_getitem.lookup (wpAny_getItem_list hl (by omega) (by omega) (by simpa using hx) h) hs
theorem rng_size (n : Nat) : Builtin.Range.rangeSize 0 (n : Int) 1 = ((n : Nat) : Int) := by
  simp [Builtin.Range.rangeSize]
  intro h
  simp [h]
theorem rng_small {n : Nat} (h : n ≤ 1000000) : Builtin.Range.small 0 (n : Int) 1 = true := by
  unfold Builtin.Range.small
  rw [rng_size]
  simp [Builtin.Range.rangeFitsLong]
  omega
end
end
section
open PySem PySem.W PyProof.Rows
set_option maxRecDepth 100000
set_option maxHeartbeats 8000000
theorem fillL13 : PySem.Challenge.rw_pg0172_02 = PySem.Challenge.rw_pg0172_02 ∧ Mine.hd.heap_1 = Mine.hd.heap_1 := by
  w_top off
  k_fill
  exact ⟨rfl, rfl⟩

section
variable {w : World} {p : Program} {loose : List Str} {mean : ExcName → Option Value} {mg mb : Str → Option Value}
  {dp un : Nat} {gd : Option (List Code)} {cn : Str} {cs : Scope} {a : Addr} {ccd : Value} {cl : List (Str × Addr)} {outer : List Env} {A₀ : Around} {base h₀ : Heap} {L : Addr} {m : Str → Option Value} {s : Shared} {Q E : Value → Shared → Prop} {news : List (Addr × Obj)}
theorem c_readerD {lst ep : Nat} {l0 : List Int} {td : Tok} (B : Below A₀ base outer h₀) (F : Fr h₀ L s.heap m) (X : (Mine.hd.heap_1 w.params).In h₀) (N : News h₀ L s.heap ((lst, W.listOf [Value.str (Str.ofString "/" ++ PySem.Txt.join (Str.ofString "/") (l0.map wd) ++ Str.ofString "/.") td].toArray ep) :: news)) (T : Top p loose mean mg mb h₀) (hk : cs.kind = .function)
    (hd : dp + 100 < recursionLimit) (hu : un + 500 < cLine) (hm : Mk l0) (hne : l0 ≠ []) (hlen : l0.length ≤ 30)
    (ret : ∀ (h' : Heap) (tk' t tr t1 t2 t3 n epd : Nat) (led : Bool) (x dx S l ig : Addr) (io : Obj), Fr h₀ L h' m → News h₀ L h' ((ig, io) :: rdObjs w.params t1 t2 t3 x dx S l ig n (set0 led) (W.listOf [Value.str (dirOf l0) tr].toArray epd) ((lst, W.listOf [Value.str (Str.ofString "/" ++ PySem.Txt.join (Str.ofString "/") (l0.map wd) ++ Str.ofString "/.") td].toArray ep) :: news)) →
      io.IsDictOf (PySem.strKind PySem.Challenge.rw_pg0172_02.row.prog w) [(Str.ofString "<string>", .int 1 t)] → (ig == sysModules) = false → (∀ p ∈ (lst, W.listOf [Value.str (Str.ofString "/" ++ PySem.Txt.join (Str.ofString "/") (l0.map wd) ++ Str.ofString "/.") td].toArray ep) :: news, Apart5 dx x S l ig p.1) → (@Ne Nat dx ig ∧ @Ne Nat x ig ∧ @Ne Nat S ig ∧ @Ne Nat l ig) → Q (.ref x) { s with heap := h', toks := tk' }) :
    wpAny (model PySem.Challenge.rw_pg0172_02.row.prog w) (ktrTop dp un gd cn cs L a ccd cl outer) (call (.ref 121) [.none, .ref lst]) Q E s := by
  obtain ⟨d1, d2, d3, d4, d5, d6, d7, d8, d9⟩ := dir_facts hm hne hlen
  exact c_readerF B F X N T hk hd hu d1 d2 d3 d4 (l0.map wd) d5 d6 d7 d8 d9 ret
end
end
section
open PySem PySem.W PyProof.Rows
/-- a list's addresses, each apart from five -/
def AllA5 (dx x S l ig : Nat) : List (Addr × Obj) → Prop
  | [] => True
  | p :: r => Apart5 dx x S l ig p.1 ∧ AllA5 dx x S l ig r
theorem allA5_of {dx x S l ig : Nat} : ∀ {r : List (Addr × Obj)}, (∀ p ∈ r, Apart5 dx x S l ig p.1) → AllA5 dx x S l ig r
  | [], _ => trivial
  | _ :: _, h => ⟨h _ (.head _), allA5_of fun p hp => h p (.tail _ hp)⟩
theorem apart5_lt {dx x S l ig : Nat} {r : List (Addr × Obj)} (h : ∀ p ∈ r, @LT.lt Nat _ p.1 dx) (h1 : dx < x) (h2 : x < S) (h3 : S < l) (h4 : l < ig) : ∀ p ∈ r, Apart5 dx x S l ig p.1 := fun p hp => by
  have := h p hp
  unfold Apart5
  refine ⟨?_, ?_, ?_, ?_, ?_⟩ <;> (intro e; omega)
end
section
open PySem PySem.W PyProof.Rows
section
variable {prog : Program} {w : World} {A : Around} {E : Value → Shared → Prop} {s : Shared} {h₀ : Heap} {L R : Addr} {m : Str → Option Value} {news rest : List (Addr × Obj)}
/-- append to a list on the ledger; what is kept beside it is named -/
theorem appendH {vs : List Value} {n : Nat} {x : Value} {Q : Value → Shared → Prop} (F : Fr h₀ L s.heap m) (N : News h₀ L s.heap news) (hm : (R, W.listOf vs.toArray n) ∈ news) (hsub : ∀ p ∈ rest, p ∈ news) (hoff : ∀ p ∈ rest, p.1 ≠ R) (hz : vs.length ≤ 1000000)
    (h : ∀ h', Fr h₀ L h' m → News h₀ L h' ((R, W.listOf (vs ++ [x]).toArray (n + 1)) :: rest) → Q .none { s with heap := h' }) : wpAny (model prog w) A (call (.builtin "list.append") [.ref R, x]) Q E s :=
  appendV F (News.sub N (l' := (R, W.listOf vs.toArray n) :: rest) fun p hp => by
    rcases List.mem_cons.mp hp with rfl | hp
    · exact hm
    · exact hsub p hp) (.head hoff) hz h
/-- a new reader, its data named -/
theorem capRd {h : Heap} {P : Params} {t1 t2 t3 x dx S l ig n : Nat} {io so lo : Obj} {rest : List (Addr × Obj)} (N : News h₀ L h ((ig, io) :: rdObjs P t1 t2 t3 x dx S l ig n so lo rest))
    (ho : @Ne Nat dx ig ∧ @Ne Nat x ig ∧ @Ne Nat S ig ∧ @Ne Nat l ig) (ha : ∀ p ∈ rest, Apart5 dx x S l ig p.1) :
    ∃ r : Rd, x = r.x ∧ io = r.io ∧ so = r.so ∧ lo = r.lo ∧ ig = r.ig ∧ r.Own ∧ (∀ p ∈ rest, Off5 r p.1) ∧ News h₀ L h (r.objs P ++ rest) :=
  ⟨⟨x, dx, S, l, ig, n, t1, t2, t3, io, so, lo⟩, rfl, rfl, rfl, rfl, rfl, ho, ha, N⟩
theorem rds_snoc (P : Params) (rs : List Rd) (r : Rd) : rdsObjs P (rs ++ [r]) = rdsObjs P rs ++ r.objs P := by simp [rdsObjs]
theorem rd_ledger {h : Heap} {P : Params} {I : Addr} {it : Obj} {rs : List Rd} {r : Rd} {ep : Nat} {base : List (Addr × Obj)}
    (N : News h₀ L h ((R, W.listOf ((rs.map fun r => Value.ref r.x) ++ [Value.ref r.x]).toArray ep) :: (r.objs P ++ (I, it) :: (base ++ rdsObjs P rs)))) :
    News h₀ L h ((I, it) :: (R, W.listOf ((rs ++ [r]).map fun r => Value.ref r.x).toArray ep) :: (base ++ rdsObjs P (rs ++ [r]))) := by
  refine News.sub N fun p hp => ?_
  rw [rds_snoc, List.map_append] at hp
  simp only [List.mem_cons, List.mem_append, List.map_cons, List.map_nil] at hp ⊢
  rcases hp with h | h | h | h | h
  · exact .inr (.inr (.inl h))
  · exact .inl h
  · exact .inr (.inr (.inr (.inl h)))
  · exact .inr (.inr (.inr (.inr h)))
  · exact .inr (.inl h)
theorem off5_objs {P : Params} {r : Rd} {q : Nat} (h : Off5 r q) : ∀ p ∈ r.objs P, @Ne Nat p.1 q := fun p hp => by
  obtain ⟨q1, q2, q3, q4, q5⟩ := h
  simp only [Rd.objs, List.mem_cons, List.not_mem_nil, or_false] at hp
  rcases hp with e | e | e | e | e <;> subst e
  · exact Ne.symm q5
  · exact Ne.symm q2
  · exact Ne.symm q1
  · exact Ne.symm q3
  · exact Ne.symm q4
end
end
section
open PySem PySem.W PyProof.Rows PySem.SeqAt
section
variable {prog : Program} {w : World} {A : Around} {E : Value → Shared → Prop} {s : Shared} {h₀ : Heap} {L R : Addr} {m : Str → Option Value} {news rest : List (Addr × Obj)}
/-- extend a list of ints by another; what is kept beside it is named -/
theorem extendH {vs ws : List Value} {n n2 b : Nat} {ns ms : List Int} {Q : Value → Shared → Prop} (F : Fr h₀ L s.heap m) (N : News h₀ L s.heap news) (hm : (R, W.listOf vs.toArray n) ∈ news) (hb : (b, W.listOf ws.toArray n2) ∈ news) (hsub : ∀ p ∈ rest, p ∈ news) (hoff : ∀ p ∈ rest, p.1 ≠ R)
    (hi : IntsAre vs ns) (hj : IntsAre ws ms) (hz : ns.length + ms.length ≤ 1000000)
    (h : ∀ h' n', Fr h₀ L h' m → News h₀ L h' ((R, W.listOf (vs ++ ws).toArray n') :: rest) → IntsAre (vs ++ ws) (ns ++ ms) → Q .none { s with heap := h' }) : wpAny (model prog w) A (call (.builtin "list.extend") [.ref R, .ref b]) Q E s := by
  have N2 : News h₀ L s.heap ([] ++ (R, W.listOf vs.toArray n) :: rest) := News.sub N fun p hp => by
    rcases List.mem_cons.mp hp with rfl | hp
    · exact hm
    · exact hsub p hp
  refine extend_in_ints F N2 (fun p hp => nomatch hp) hoff (N _ hb).1 hi (by simpa using hj) (fun h' n' F' N' hI => ?_) ?_
  · have e : (vs ++ ws.toArray.toList) = vs ++ ws := by simp
    rw [e] at N' hI
    exact h h' n' F' N' hI
  · rw [sizeLine_eq, hi.length, List.size_toArray, hj.length]; omega
theorem indexV {l ep : Nat} {vs : List Value} {ns : List Int} {k : Int} {t : Tok} {Q : Value → Shared → Prop} (N : News h₀ L s.heap news) (hm : (l, W.listOf vs.toArray ep) ∈ news) (hi : IntsAre vs ns) (hk : k ∈ ns) (hz : ns.length ≤ 100000)
    (h : Q (.int ((ns.idxOf k : Nat) : Int) s.toks) { s with toks := s.toks + 1 }) : wpAny (model prog w) A (call (.builtin "list.index") [.ref l, .int k t]) Q E s := by
  have hlen := hi.length
  have hj : ns.idxOf k < ns.length := List.idxOf_lt_length_iff.mpr hk
  refine call_meets PySem.F.slot_list_index ⟨_, (N _ hm).1, rfl⟩ PySem.F.entry_list_index (PySem.F.args_list_index_2 _ _)
    (list_indexAt l vs.toArray ep none #[] (.int k t) (isInt k) (ns.idxOf k) (by simpa [hlen] using hj) (by omega) ?_ ?_) ⟨(N _ hm).1, fun y hy => (eq_isInt k t hi y (by simpa using hy)).at _ _, h⟩
  · show isInt k vs[ns.idxOf k] = true
    rw [isInt_at k hi _ (by omega) hj]
    simpa using List.getElem_idxOf hj
  · intro j hjs hlt
    show isInt k vs[j] = false
    rw [isInt_at k hi j (by simpa using hjs) (by omega)]
    exact ne_of_lt_idxOf hlt _
end
theorem idx_get {ns : List Int} {k : Int} (hk : k ∈ ns) : ns[ns.idxOf k]? = some k := by
  have hj : ns.idxOf k < ns.length := List.idxOf_lt_length_iff.mpr hk
  rw [List.getElem?_eq_getElem hj, List.getElem_idxOf hj]
/-- the drawn numbers' writings, one behind the other -/
def flat (mm : Int) (W : Nat) (zs : List Int) : List Int := zs.flatMap (codeI mm W)
theorem flat_snoc (mm : Int) (W : Nat) (zs : List Int) (z : Int) : flat mm W (zs ++ [z]) = flat mm W zs ++ codeI mm W z := by simp [flat]
theorem flat_bits (mm : Int) (W : Nat) (zs : List Int) : Bits (flat mm W zs) := fun x hx => by
  obtain ⟨z, _, hz⟩ := List.mem_flatMap.mp hx
  exact codeI_bits mm W z x hz
theorem flat_len {mm : Int} {W : Nat} {zs : List Int} (hb : ∀ z ∈ zs, 0 ≤ z ∧ z ≤ 4 * mm + 3) (hm0 : 0 < mm) (hW : W ≤ 20) : (flat mm W zs).length ≤ 28 * zs.length := by
  induction zs with
  | nil => simp [flat]
  | cons z zs ih =>
    have h1 := ih fun y hy => hb y (.tail _ hy)
    have h2 := codeI_len (hb z (.head _)).1 (hb z (.head _)).2 hm0 hW
    show (codeI mm W z ++ flat mm W zs).length ≤ _
    rw [List.length_append, List.length_cons]; omega
theorem flat_take_len {mm : Int} {W : Nat} {zs : List Int} (hb : ∀ z ∈ zs, 0 ≤ z ∧ z ≤ 4 * mm + 3) (hm0 : 0 < mm) (hW : W ≤ 20) (h7 : zs.length ≤ 7) (i : Nat) : (flat mm W (zs.take i)).length ≤ 196 := by
  have h1 := flat_len (zs := zs.take i) (fun z hz => hb z (List.mem_of_mem_take hz)) hm0 hW
  have h2 : (zs.take i).length ≤ 7 := by rw [List.length_take]; omega
  omega
/-- how far the plain reading has come -/
def Dec (mm : Int) (W : Nat) (zs : List Int) (at_ : Nat) (dec : List Int) : Prop :=
  (∃ i, i < zs.length ∧ dec = zs.take i ∧ at_ = (flat mm W (zs.take i)).length) ∨ (zs <+: dec)
theorem Dec.init {mm : Int} {W : Nat} {zs : List Int} : Dec mm W zs 0 [] := by
  cases zs with
  | nil => exact .inr (List.prefix_refl _)
  | cons z zs => exact .inl ⟨0, by simp, rfl, rfl⟩
section
variable {mm : Int} {W : Nat} {zs tail dec : List Int} {at_ : Nat}
theorem flat_split (i : Nat) (h : i < zs.length) : ∃ z rest, zs.take (i + 1) = zs.take i ++ [z] ∧ 0 ≤ (0:Int) ∧ z ∈ zs ∧ (flat mm W zs ++ tail).drop (flat mm W (zs.take i)).length = codeI mm W z ++ rest := by
  refine ⟨zs[i], flat mm W (zs.drop (i + 1)) ++ tail, ?_, Int.le_refl _, List.getElem_mem h, ?_⟩
  · rw [List.take_add_one, List.getElem?_eq_getElem h]; rfl
  · have e : flat mm W zs = flat mm W (zs.take i) ++ (codeI mm W zs[i] ++ flat mm W (zs.drop (i + 1))) := by
        unfold flat
        conv => lhs; rw [← List.take_append_drop i zs, List.drop_eq_getElem_cons h]
        rw [List.flatMap_append, List.flatMap_cons]
    rw [e, List.append_assoc, List.drop_left, List.append_assoc]
theorem Dec.step {x : Int} {k : Nat} (hd : Dec mm W zs at_ dec) (hb : ∀ z ∈ zs, 0 ≤ z) (hm0 : 0 < mm) (hW1 : mm ≤ 2 ^ W) (hW2 : ∀ v : Nat, v < W → (2 : Int) ^ v < mm) (h : frontI mm W ((flat mm W zs ++ tail).drop at_) = some (x, k)) :
    Dec mm W zs (at_ + k) (dec ++ [x]) := by
  rcases hd with ⟨i, hi, rfl, rfl⟩ | hp
  · obtain ⟨z, rest, e1, _, hz, e2⟩ := flat_split (mm := mm) (W := W) (tail := tail) i hi
    rw [e2, front_code (hb z hz) hm0 hW1 hW2] at h
    have h' := Option.some.inj h
    obtain ⟨rfl, rfl⟩ := Prod.mk.inj h'
    by_cases hl : i + 1 < zs.length
    · refine .inl ⟨i + 1, hl, e1.symm, ?_⟩
      rw [e1, flat_snoc, List.length_append]
    · refine .inr ?_
      rw [← e1, List.take_of_length_le (by omega)]
      exact List.prefix_refl _
  · exact .inr (hp.trans (List.prefix_append _ _))
theorem Dec.fin (hd : Dec mm W zs at_ dec) (hb : ∀ z ∈ zs, 0 ≤ z) (hm0 : 0 < mm) (hW1 : mm ≤ 2 ^ W) (hW2 : ∀ v : Nat, v < W → (2 : Int) ^ v < mm) (h : frontI mm W ((flat mm W zs ++ tail).drop at_) = none) : dec.take zs.length = zs := by
  rcases hd with ⟨i, hi, rfl, rfl⟩ | hp
  · exfalso
    obtain ⟨z, rest, e1, _, hz, e2⟩ := flat_split (mm := mm) (W := W) (tail := tail) i hi
    rw [e2, front_code (hb z hz) hm0 hW1 hW2] at h
    cases h
  · exact (List.prefix_iff_eq_take.mp hp).symm
/-- a found writing lies in the row -/
theorem front_in {row : List Int} {x : Int} {k : Nat} (hb : Bits row) (hm0 : 0 < mm) (hW1 : mm ≤ 2 ^ W) (hW2 : ∀ v : Nat, v < W → (2 : Int) ^ v < mm) (h : frontI mm W row = some (x, k)) : 0 ≤ x ∧ 0 < k ∧ k ≤ row.length := by
  obtain ⟨h1, h2, h3⟩ := front_some hb hm0 hW1 hW2 h
  refine ⟨h1, ?_, by rw [h2]; exact h3.length_le⟩
  rw [h2]
  exact List.length_pos_iff.mpr (codeI_ne mm W x)
/-- what a reader is due to tell: of the row, as of its next letters -/
theorem due_take {row : List Int} {n : Int} {c : Nat} (hl : (codeI mm W n).length ≤ c) : (codeI mm W n <+: row.take c) ↔ (codeI mm W n <+: row) := by
  constructor
  · exact fun h => h.trans (List.take_prefix _ _)
  · intro h
    obtain ⟨r, rfl⟩ := h
    rw [List.take_append]
    exact ⟨r.take (c - (codeI mm W n).length), by rw [List.take_of_length_le hl]⟩
theorem due_none {row : List Int} {n : Int} {c : Nat} (hb : Bits row) (hn0 : 0 ≤ n) (hm0 : 0 < mm) (hW1 : mm ≤ 2 ^ W) (hW2 : ∀ v : Nat, v < W → (2 : Int) ^ v < mm) (hl : (codeI mm W n).length ≤ c) (h : frontI mm W row = none) :
    (0 : Int) = b01 (decide (codeI mm W n <+: row.take c)) := by
  have : ¬ codeI mm W n <+: row.take c := by
    rw [due_take hl, front_iff hb hn0 hm0 hW1 hW2]
    rintro ⟨k, e⟩
    rw [h] at e; cases e
  rw [decide_eq_false this]; rfl
theorem due_eq {row : List Int} {n : Int} {c k : Nat} (hb : Bits row) (hn0 : 0 ≤ n) (hm0 : 0 < mm) (hW1 : mm ≤ 2 ^ W) (hW2 : ∀ v : Nat, v < W → (2 : Int) ^ v < mm) (hl : (codeI mm W n).length ≤ c) (h : frontI mm W row = some (n, k)) :
    (1 : Int) = b01 (decide (codeI mm W n <+: row.take c)) := by
  have : codeI mm W n <+: row.take c := by
    rw [due_take hl, front_iff hb hn0 hm0 hW1 hW2]
    exact ⟨k, h⟩
  rw [decide_eq_true this]; rfl
theorem due_ne {row : List Int} {n x : Int} {c k : Nat} (hb : Bits row) (hn0 : 0 ≤ n) (hm0 : 0 < mm) (hW1 : mm ≤ 2 ^ W) (hW2 : ∀ v : Nat, v < W → (2 : Int) ^ v < mm) (hl : (codeI mm W n).length ≤ c) (h : frontI mm W row = some (x, k)) (hx : x ≠ n) :
    (0 : Int) = b01 (decide (codeI mm W n <+: row.take c)) := by
  have : ¬ codeI mm W n <+: row.take c := by
    rw [due_take hl, front_iff hb hn0 hm0 hW1 hW2]
    rintro ⟨k', e⟩
    rw [h] at e
    have := Option.some.inj e
    exact hx (Prod.mk.inj this).1
  rw [decide_eq_false this]; rfl
end
theorem RdOk.mono {prog : Program} {w : World} {K K' : Nat} {code : List Int} {n : Int} {r : Rd} (h : RdOk prog w K code n r) (hk : K ≤ K') : RdOk prog w K' code n r := by
  obtain ⟨⟨kvs, a, b, c⟩, d⟩ := h
  exact ⟨⟨kvs, a, b, Nat.le_trans c hk⟩, d⟩
theorem RdsOk.mono {prog : Program} {w : World} {K K' : Nat} {f : Int → List Int} (hk : K ≤ K') : ∀ {rs : List Rd} {k : List Int}, RdsOk prog w K f rs k → RdsOk prog w K' f rs k
  | [], [], _ => trivial
  | _ :: _, _ :: _, x => ⟨x.1.mono hk, RdsOk.mono hk x.2⟩
theorem RdsOk.uncons {prog : Program} {w : World} {K : Nat} {f : Int → List Int} {n : Int} {k : List Int} : ∀ {rs : List Rd}, RdsOk prog w K f rs (n :: k) → ∃ r rs', rs = r :: rs' ∧ RdOk prog w K (f n) n r ∧ RdsOk prog w K f rs' k
  | r :: rs', x => ⟨r, rs', rfl, x.1, x.2⟩
theorem objs_io (P : Params) (r : Rd) (io' : Obj) (q : Nat) : (∀ p ∈ ({ r with io := io' } : Rd).objs P, @Ne Nat p.1 q) ↔ ∀ p ∈ r.objs P, @Ne Nat p.1 q := by
  simp only [Rd.objs, List.forall_mem_cons]
theorem RdsApart.put {P : Params} {rsA rsB : List Rd} {r : Rd} {base : List (Addr × Obj)} {io' : Obj} (h : RdsApart P (rsA ++ r :: rsB) base) : RdsApart P (rsA ++ { r with io := io' } :: rsB) base := by
  obtain ⟨a, b, c⟩ := h
  rw [List.pairwise_append, List.pairwise_cons] at a
  obtain ⟨a1, ⟨a2, a3⟩, a4⟩ := a
  refine ⟨?_, ?_, ?_⟩
  · rw [List.pairwise_append, List.pairwise_cons]
    refine ⟨a1, ⟨fun r' hr' => ?_, a3⟩, fun r0 hr0 r' hr' => ?_⟩
    · exact ⟨(a2 r' hr').1, (objs_io P r io' _).mpr (a2 r' hr').2⟩
    · rcases List.mem_cons.mp hr' with rfl | hr'
      · have := a4 r0 hr0 r (.head _)
        exact ⟨(objs_io P r io' _).mpr this.1, this.2⟩
      · exact a4 r0 hr0 r' (.tail _ hr')
  · intro r' hr'
    rcases List.mem_append.mp hr' with h1 | h1
    · exact b r' (List.mem_append_left _ h1)
    · rcases List.mem_cons.mp h1 with rfl | h1
      · exact b r (List.mem_append_right _ (.head _))
      · exact b r' (List.mem_append_right _ (.tail _ h1))
  · intro r' hr'
    rcases List.mem_append.mp hr' with h1 | h1
    · exact c r' (List.mem_append_left _ h1)
    · rcases List.mem_cons.mp h1 with rfl | h1
      · exact c r (List.mem_append_right _ (.head _))
      · exact c r' (List.mem_append_right _ (.tail _ h1))
/-- one more object apart from the readers' records -/
theorem RdsApart.cons {P : Params} {rs : List Rd} {base : List (Addr × Obj)} {q : Addr × Obj} (h : RdsApart P rs base) (hq : ∀ p ∈ rdsObjs P rs, @Ne Nat p.1 q.1) : RdsApart P rs (q :: base) := by
  refine ⟨h.1, h.2.1, fun r hr p hp => ?_⟩
  rcases List.mem_cons.mp hp with rfl | hp
  · exact Ne.symm (hq (r.ig, r.io) (List.mem_flatMap.mpr ⟨r, hr, .head _⟩))
  · exact h.2.2 r hr p hp
theorem RdsApart.fst {P : Params} {rs : List Rd} {base base' : List (Addr × Obj)} (h : RdsApart P rs base) (e : ∀ p ∈ base', ∃ q ∈ base, q.1 = p.1) : RdsApart P rs base' := by
  refine ⟨h.1, h.2.1, fun r hr p hp => ?_⟩
  obtain ⟨q, hq, e⟩ := e p hp
  rw [← e]
  exact h.2.2 r hr q hq
/-- what a reader in the middle lies apart from -/
theorem RdsApart.mid {P : Params} {rsA rsB : List Rd} {r : Rd} {base : List (Addr × Obj)} (h : RdsApart P (rsA ++ r :: rsB) base) : r.Own ∧ ∀ p ∈ base ++ (rdsObjs P rsA ++ rdsObjs P rsB), @Ne Nat p.1 r.ig := by
  obtain ⟨a, b, c⟩ := h
  rw [List.pairwise_append, List.pairwise_cons] at a
  obtain ⟨a1, ⟨a2, a3⟩, a4⟩ := a
  refine ⟨b r (List.mem_append_right _ (.head _)), fun p hp => ?_⟩
  rcases List.mem_append.mp hp with hp | hp
  · exact c r (List.mem_append_right _ (.head _)) p hp
  · rcases List.mem_append.mp hp with hp | hp
    · obtain ⟨r0, hr0, hp⟩ := List.mem_flatMap.mp hp
      exact (a4 r0 hr0 r (.head _)).2 p hp
    · obtain ⟨r0, hr0, hp⟩ := List.mem_flatMap.mp hp
      exact (a2 r0 hr0).1 p hp
theorem rds_mid {P : Params} {rsA rsB : List Rd} {r : Rd} {base : List (Addr × Obj)} : ∀ p ∈ r.objs P ++ (base ++ (rdsObjs P rsA ++ rdsObjs P rsB)), p ∈ base ++ rdsObjs P (rsA ++ r :: rsB) := by
  intro p hp
  have e : rdsObjs P (rsA ++ r :: rsB) = rdsObjs P rsA ++ (r.objs P ++ rdsObjs P rsB) := by simp [rdsObjs]
  rw [e]
  generalize Rd.objs P r = o at hp ⊢
  simp only [List.mem_append] at hp ⊢
  rcases hp with h | h | h | h <;> simp only [h, true_or, or_true]
theorem rds_mid2 {P : Params} {rsA rsB : List Rd} {r : Rd} {base : List (Addr × Obj)} : ∀ p ∈ base ++ rdsObjs P (rsA ++ r :: rsB), p ∈ r.objs P ++ (base ++ (rdsObjs P rsA ++ rdsObjs P rsB)) := by
  intro p hp
  have e : rdsObjs P (rsA ++ r :: rsB) = rdsObjs P rsA ++ (r.objs P ++ rdsObjs P rsB) := by simp [rdsObjs]
  rw [e] at hp
  generalize Rd.objs P r = o at hp ⊢
  simp only [List.mem_append] at hp ⊢
  rcases hp with h | h | h | h <;> simp only [h, true_or, or_true]
theorem M6_self (m : Str → Option Value) (l : List Str) : m = M6 m (l.map fun a => (a, m a)) :=
  mapL_eq _ (fun _ _ => rfl) fun p hp => by
    obtain ⟨a, _, rfl⟩ := List.mem_map.mp hp
    rfl
section
variable {prog : Program} {w : World} {A : Around} {E : Value → Shared → Prop} {s : Shared} {h₀ : Heap} {L : Addr} {m : Str → Option Value}
theorem lastV {value slice : PySem.Expr} {l : Addr} {vs : List Value} {ns : List Int} {u : Tok} {Q : Value → Shared → Prop} (F : Fr h₀ L s.heap m) (hl : h₀.IsList l vs.toArray) (hi : IntsAre vs ns) (hne : decide (ns = []) = false) (h : ∀ x t, Q (.int x t) s)
    (hs : subscripted slice false (.ref l) (.int (-1) u) = operate [.ref l, .int (-1) u] (getItem (.ref l) (.int (-1) u)) := by with_unfolding_all rfl) (hg : ∀ r, letTemporaryGo value (.ref l) r = pure () := by intro _; with_unfolding_all rfl) :
    wpAny (model prog w) A (subscriptTail value slice (.ref l) (.int (-1) u)) Q E s := by
  have hn : ns ≠ [] := by simpa using hne
  have h1 : 1 ≤ ns.length := List.length_pos_iff.mpr hn
  refine item_list_ints_neg (hs := hs) (hg := hg) (ns := ns) (vs := vs) ?_ hi (by decide) (by omega) (by decide) (fun t => h _ _)
  obtain ⟨o, e, r⟩ := hl
  exact ⟨o, F.keep _ _ e, r⟩
end
theorem swap2 {α : Type} {a b : α} {r : List α} : ∀ p ∈ a :: b :: r, p ∈ b :: a :: r := fun p hp => by
  rcases List.mem_cons.mp hp with h | hp
  · exact .tail _ (h ▸ .head _)
  · rcases List.mem_cons.mp hp with h | hp
    · exact h ▸ .head _
    · exact .tail _ (.tail _ hp)
def NCell (o : Obj) : Prop := ∀ v, o.data ≠ .cell v
theorem rds_cell {prog : Program} {w : World} {P : Params} {K : Nat} {f : Int → List Int} : ∀ {rs : List Rd} {kn : List Int}, RdsOk prog w K f rs kn → ∀ p ∈ rdsObjs P rs, NCell p.2
  | [], [], _, p, hp => nomatch hp
  | r :: rs, n :: kn, x, p, hp => by
    rcases List.mem_append.mp (show p ∈ r.objs P ++ rdsObjs P rs by simpa [rdsObjs] using hp) with hp | hp
    · obtain ⟨⟨kvs, ⟨es, ep, _, hd, _⟩, _⟩, _, hk⟩ := x.1
      simp only [Rd.objs, List.mem_cons, List.not_mem_nil, or_false] at hp
      rcases hp with rfl | rfl | rfl | rfl | rfl
      · exact fun v e => by rw [hd] at e; cases e
      · exact fun v e => by cases e
      · exact fun v e => by cases e
      · rcases hk with ⟨_, tm, h1, _⟩ | ⟨_, led, td, epd, h1, _⟩
        · exact fun v e => by rw [h1] at e; cases e
        · exact fun v e => by rw [h1] at e; cases e
      · rcases hk with ⟨_, tm, _, h1⟩ | ⟨_, led, td, epd, _, h1⟩
        · exact fun v e => by rw [h1] at e; cases e
        · exact fun v e => by rw [h1] at e; cases e
    · exact rds_cell x.2 p hp
theorem cell_ne {h₀ h : Heap} {L c : Addr} {o : Obj} {v : Option Value} {news l : List (Addr × Obj)} (N : News h₀ L h news) (hm : (c, o) ∈ news) (ho : o.data = .cell v) (hs : ∀ p ∈ l, p ∈ news) (hl : ∀ p ∈ l, NCell p.2) : ∀ p ∈ l, @Ne Nat p.1 c := fun p hp e => by
  have e2 : p.2 = o := News.inj N (hs p hp) hm e
  exact hl p hp v (by rw [e2]; exact ho)
theorem tail_cell {prog : Program} {w : World} {P : Params} {K : Nat} {f : Int → List Int} {rs : List Rd} {kn : List Int} {cs : List CO} {tl : List (Addr × Obj)} (hrs : RdsOk prog w K f rs kn) (TS : TabS tl) : ∀ p ∈ cs.map coObj ++ tl ++ rdsObjs P rs, NCell p.2 := fun p hp => by
  rcases List.mem_append.mp hp with hp | hp
  · rcases List.mem_append.mp hp with hp | hp
    · obtain ⟨c, _, rfl⟩ := List.mem_map.mp hp
      exact fun v e => by cases e
    · obtain ⟨vs, hv, _⟩ := TS.fields p hp
      exact fun v e => by rw [hv] at e; cases e
  · exact rds_cell hrs p hp
theorem seq_cell {xs : Array Value} {n : Nat} : NCell (W.listOf xs n) := fun v e => by cases e
theorem RdsApart.sub {P : Params} {rs : List Rd} {base base' : List (Addr × Obj)} (h : RdsApart P rs base) (hs : ∀ p ∈ base', p ∈ base) : RdsApart P rs base' := ⟨h.1, h.2.1, fun r hr p hp => h.2.2 r hr p (hs p hp)⟩
theorem rds_put_ne {P : Params} {rsA rsB : List Rd} {r : Rd} {io' : Obj} {q : Nat} (h : ∀ p ∈ rdsObjs P (rsA ++ r :: rsB), @Ne Nat p.1 q) : ∀ p ∈ rdsObjs P (rsA ++ { r with io := io' } :: rsB), @Ne Nat p.1 q := fun p hp => by
  obtain ⟨r0, hr0, hp⟩ := List.mem_flatMap.mp hp
  have hin : ∀ r1 ∈ rsA ++ r :: rsB, ∀ p ∈ r1.objs P, @Ne Nat p.1 q := fun r1 hr1 p hp => h p (List.mem_flatMap.mpr ⟨r1, hr1, hp⟩)
  rcases List.mem_append.mp hr0 with h1 | h1
  · exact hin r0 (List.mem_append_left _ h1) p hp
  · rcases List.mem_cons.mp h1 with rfl | h1
    · exact (objs_io P r io' q).mpr (hin r (List.mem_append_right _ (.head _))) p hp
    · exact hin r0 (List.mem_append_right _ (.tail _ h1)) p hp
theorem main_sub {α : Type} {r cl k d c3 c2 c1 x44 x37 : α} {co tl rd : List α} (h44 : x44 ∈ tl) (h37 : x37 ∈ tl) : ∀ p ∈ r :: k :: d :: c1 :: x44 :: x37 :: rd, p ∈ r :: cl :: k :: d :: c3 :: c2 :: c1 :: (co ++ tl ++ rd) := fun p hp => by
  simp only [List.mem_cons, List.mem_append] at hp ⊢
  rcases hp with h | h | h | h | rfl | rfl | h
  · simp only [h, true_or, or_true]
  · simp only [h, true_or, or_true]
  · simp only [h, true_or, or_true]
  · simp only [h, true_or, or_true]
  · simp only [h44, true_or, or_true]
  · simp only [h37, true_or, or_true]
  · simp only [h, or_true]
theorem ap_sub {α : Type} {cl k d c3 c2 c1 x44 x37 : α} {co tl : List α} (h44 : x44 ∈ tl) (h37 : x37 ∈ tl) : ∀ p ∈ k :: d :: c1 :: x44 :: x37 :: [], p ∈ cl :: k :: d :: c3 :: c2 :: c1 :: (co ++ tl) := fun p hp => by
  simp only [List.mem_cons, List.mem_append, List.not_mem_nil, or_false] at hp ⊢
  rcases hp with h | h | h | rfl | rfl
  · simp only [h, true_or, or_true]
  · simp only [h, true_or, or_true]
  · simp only [h, true_or, or_true]
  · simp only [h44, true_or, or_true]
  · simp only [h37, or_true]
theorem fmod2_bit (x : Int) : x.fmod 2 = 0 ∨ x.fmod 2 = 1 := by
  have h1 := Int.fmod_nonneg_of_pos x (b := 2) (by decide)
  have h2 := Int.fmod_lt_of_pos x (b := 2) (by decide)
  omega
end
section
open PySem PySem.W PyProof.Rows
set_option maxRecDepth 100000
set_option maxHeartbeats 8000000
/-- what _law_front gives back -/
def FrontV (fv : Value) (TA : Nat) (TO : Obj) : Option (Int × Nat) → Prop
  | none => fv = .none
  | some (x, k) => fv = .ref TA ∧ ∃ t1 t2, TO = { cls := .type "tuple", data := .seq #[.int x t1, .int (k : Int) t2] }
section
variable {w : World} {p : Program} {loose : List Str} {mean : ExcName → Option Value} {mg mb : Str → Option Value}
  {dp un : Nat} {gd : Option (List Code)} {cn : Str} {cs : Scope} {a : Addr} {ccd : Value} {cl : List (Str × Addr)} {outer : List Env} {A₀ : Around} {base h₀ : Heap} {L : Addr} {m : Str → Option Value} {s : Shared} {Q E : Value → Shared → Prop} {news : List (Addr × Obj)}
theorem c_front2 {l ep : Nat} {vs : List Value} {ns : List Int} (B : Below A₀ base outer h₀) (F : Fr h₀ L s.heap m) (X : (Mine.hd.heap_1 w.params).In h₀) (N : News h₀ L s.heap ((l, W.listOf vs.toArray ep) :: news)) (T : Top p loose mean mg mb h₀) (hk : cs.kind = .function)
    (hl : ∀ p ∈ news, @LT.lt Nat _ p.1 l)
    (hd : dp + 30 < recursionLimit) (hu : un + 150 < cLine) (hI : IntsAre vs ns) (hb : Bits ns) (hlen : ns.length ≤ 1000) (mm : Int) (tm : Tok) (hm0 : 0 < mm) (hm1 : mm ≤ 1000000)
    (Wd : Nat) (hW : Wd ≤ 40) (hW1 : mm ≤ 2 ^ Wd) (hW2 : ∀ v : Nat, v < Wd → (2 : Int) ^ v < mm)
    (ret : ∀ (h' : Heap) (tk' : Nat) (fv : Value) (TA : Nat) (TO : Obj), Fr h₀ L h' m → News h₀ L h' ((TA, TO) :: news) → (∀ p ∈ news, @LT.lt Nat _ p.1 TA) → FrontV fv TA TO (frontI mm Wd ns) → Q fv { s with heap := h', toks := tk' }) :
    wpAny (model PySem.Challenge.rw_pg0172_02.row.prog w) (ktrTop dp un gd cn cs L a ccd cl outer) (call (.ref 146) [.ref l, .int mm tm]) Q E s := by
  generalize hfr : frontI mm Wd ns = fr at ret
  refine' c_front B F X N T hk hd hu hI hb hlen mm tm hm0 hm1 Wd hW hW1 hW2 ?ca ?cb
  case ca =>
    intro e h' tk' F' N'
    rw [hfr] at e
    subst e
    exact ret h' tk' .none l (W.listOf vs.toArray ep) F' N' hl rfl
  case cb =>
    intro x k e h' tk' t1 t2 r F' N' l1
    rw [hfr] at e
    subst e
    refine ret h' tk' (.ref r) r { cls := .type "tuple", data := .seq #[.int x t1, .int (k : Int) t2] } F' (News.sub N' ?_) (fun p hp => l1 p (.tail _ hp)) ⟨rfl, t1, t2, rfl⟩
    intro p hp
    rcases List.mem_cons.mp hp with h | hp
    · exact h ▸ .head _
    · exact .tail _ (.tail _ hp)
end
theorem off1_mem {D : Addr} {l : List (Addr × Obj)} : LCg.Off1 D l → ∀ p ∈ l, @Ne Nat p.1 D := by
  induction l with
  | nil => exact fun _ p hp => nomatch hp
  | cons q l ih =>
    rintro ⟨h1, h2⟩ p hp
    rcases List.mem_cons.mp hp with h | hp
    · rw [h]; exact h1
    · exact ih h2 p hp
theorem run32 (l : List Int) (a : Nat) : ((l.drop ((a : Int)).toNat).take (min ((a : Int) + 32).toNat l.length - ((a : Int)).toNat)) = (l.drop a).take 32 := by
  have e1 : ((a : Int)).toNat = a := Int.toNat_natCast a
  have e2 : ((a : Int) + 32).toNat = a + 32 := by omega
  rw [e1, e2]
  by_cases h : a + 32 ≤ l.length
  · rw [Nat.min_eq_left h, Nat.add_sub_cancel_left]
  · rw [Nat.min_eq_right (by omega), List.take_of_length_le (by rw [List.length_drop]; omega), List.take_of_length_le (by rw [List.length_drop]; omega)]
theorem capFV {fv : Value} {TA : Nat} {TO : Obj} {o : Option (Int × Nat)} (h : FrontV fv TA TO o) : ∃ fv' TA' TO', fv' = fv ∧ TA' = TA ∧ TO' = TO ∧ FrontV fv' TA' TO' o := ⟨fv, TA, TO, rfl, rfl, rfl, h⟩
inductive StopTold : Prop where
  | yes : StopTold
theorem stopTold : StopTold := .yes
theorem FrontV.split {fv : Value} {TA : Nat} {TO : Obj} : ∀ {o : Option (Int × Nat)}, FrontV fv TA TO o → (fv = .none ∧ o = none) ∨ ∃ x k t1 t2, fv = .ref TA ∧ TO = { cls := .type "tuple", data := .seq #[.int x t1, .int ((k : Nat) : Int) t2] } ∧ o = some (x, k)
  | none, h => .inl ⟨h, rfl⟩
  | some (x, k), h => by
    obtain ⟨h1, t1, t2, h2⟩ := h
    exact .inr ⟨x, k, t1, t2, h1, h2, rfl⟩
end
section
open PySem PySem.W PyProof.Rows
set_option maxRecDepth 100000
set_option maxHeartbeats 8000000
section
variable {w : World} {p : Program} {loose : List Str} {mean : ExcName → Option Value} {mg mb : Str → Option Value}
  {dp un : Nat} {gd : Option (List Code)} {cn : Str} {cs : Scope} {a : Addr} {ccd : Value} {cl : List (Str × Addr)} {outer : List Env} {A₀ : Around} {base h₀ : Heap} {L : Addr} {m : Str → Option Value} {s : Shared} {Q E : Value → Shared → Prop} {news : List (Addr × Obj)}
theorem b01_le {kvs : List (Str × Value)} {k : Str} {v : Value} (h : valueAt kvs k = none) : (stored kvs k v).length = kvs.length + 1 := by
  rw [stored_absent h]; simp
/-- what a reader tells of a row, told by name and by file -/
theorem c_names {r : Rd} {code l : List Int} {n : Int} {K : Nat} {tf tn : Tok} (B : Below A₀ base outer h₀) (F : Fr h₀ L s.heap m) (X : (Mine.hd.heap_1 w.params).In h₀)
    (N : News h₀ L s.heap (r.objs w.params ++ news)) (T : Top p loose mean mg mb h₀) (hk : cs.kind = .function)
    (hok : RdOk PySem.Challenge.rw_pg0172_02.row.prog w K code n r) (hK : K ≤ 100000) (own : r.Own) (hap : ∀ p ∈ news, @Ne Nat p.1 r.ig)
    (hc : code ≠ []) (hcb : Mk code) (hcl : code.length ≤ 40) (hlb : Mk l) (hll : l.length ≤ 40)
    (hd : dp + 20 < recursionLimit) (hu : un + 100 < cLine)
    (ret : ∀ (h' : Heap) (tk' t' : Nat) (io' : Obj), Fr h₀ L h' m → News h₀ L h' (({ r with io := io' } : Rd).objs w.params ++ news) → RdOk PySem.Challenge.rw_pg0172_02.row.prog w (K + 1) code n { r with io := io' } → Q (.int (b01 (decide (code <+: l))) t') { s with heap := h', toks := tk' }) :
    wpAny (model PySem.Challenge.rw_pg0172_02.row.prog w) (ktrTop dp un gd cn cs L a ccd cl outer) (call (.ref 118) [.ref r.x, .str (fileOf l) tf, .str (modOf l) tn]) Q E s := by
  obtain ⟨x, dx, S, l₂, ig, n₂, t1, t2, t3, io, so, lo⟩ := r
  obtain ⟨⟨kvs, hD, hkv, hkl⟩, hsys, hkind⟩ := hok
  obtain ⟨o1, o2, o3, o4⟩ := own
  dsimp only at *
  have e1 := join_len hcb lenDot
  have e2 := join_len hlb lenDot
  have e3 := join_len hcb lenSl
  have e4 := join_len hlb lenSl
  have z1 : (modOf code).length ≤ 100000 := by unfold modOf; omega
  have z2 : (modOf l).length ≤ 100000 := by unfold modOf; omega
  have z3 : (dirOf code).length ≤ 100000 := by unfold dirOf; rw [Str.length_append, lenSl]; omega
  have z4 : (fileOf l).length ≤ 100000 := by unfold fileOf; rw [Str.length_append, Str.length_append, lenSl, lenMp]; omega
  have hsep : ∀ (so lo : Obj), ∀ p ∈ rdObjs w.params t1 t2 t3 x dx S l₂ ig n₂ so lo news, @Ne Nat p.1 ig := by
    intro so lo p hp
    simp only [List.mem_cons] at hp
    rcases hp with rfl | rfl | rfl | rfl | hp
    · exact o2
    · exact o1
    · exact o3
    · exact o4
    · exact hap p hp
  cases hv : valueAt kvs (modOf l) with
  | some v =>
    obtain ⟨t, rfl⟩ := hkv l hlb v hv
    refine c_namesHit B F X N T hk (hsep so lo) hsys hD (by omega) hv hd hu fun h' tk' F' N' => ?_
    exact ret h' tk' t io F' N' ⟨⟨kvs, hD, hkv, by omega⟩, hsys, hkind⟩
  | none =>
    rcases hkind with ⟨hn, tm, rfl, rfl⟩ | ⟨hn, led, td, epd, rfl, rfl⟩
    · refine c_namesM B F X N T hk (hsep _ _) hsys hD (by omega) hv hd hu z1 z2 z4 fun h' tk' t t' io' F' N' hD' => ?_
      rw [show verdM (modOf code) (modOf l) = decide (code <+: l) from verdM_marks hc hcb hlb] at hD' ⊢
      exact ret h' tk' t' io' F' N' ⟨⟨_, hD', hkv.store hlb hv, by rw [b01_le hv]; omega⟩, hsys, .inl ⟨hn, tm, rfl, rfl⟩⟩
    · refine c_namesF B F X N T hk (hsep _ _) hsys hD (by omega) hv hd hu z3 z2 z4 fun h' tk' t t' io' F' N' hD' => ?_
      rw [show verdF (dirOf code) (fileOf l) = decide (code <+: l) from verdF_marks hc hcb hlb] at hD' ⊢
      exact ret h' tk' t' io' F' N' ⟨⟨_, hD', hkv.store hlb hv, by rw [b01_le hv]; omega⟩, hsys, .inr ⟨hn, led, td, epd, rfl, rfl⟩⟩
end
end
section
set_option maxHeartbeats 400000000
inductive StopM : Prop where
  | yes : StopM
theorem fillLaw : PySem.Challenge.rw_pg0172_02 = PySem.Challenge.rw_pg0172_02 ∧ Mine.hd.heap_1 = Mine.hd.heap_1 := by
  w_top off
  k_fill
  exact ⟨rfl, rfl⟩
local macro_rules | `(tactic| walk_at "pyIter ref") => `(tactic| refine Stop.to ?_)
local macro_rules | `(tactic| walk_at "CompSrc") => `(tactic| refine Stop.to ?_)
local macro_rules | `(tactic| walk_at "exec While") => `(tactic| refine Stop.to ?_)
local macro_rules | `(tactic| walk_at "exec While Constant") => `(tactic| refine Stop.to ?_)
local macro_rules | `(tactic| walk_at "exec Assign cons ListComp") => `(tactic| refine Stop.to ?_)
local macro_rules | `(tactic| walk_at "CompEnd") => `(tactic| refine Stop.to ?_)
local macro_rules | `(tactic| walk_at "call ref") => `(tactic| refine Stop.to ?_)
local macro_rules | `(tactic| walk_at "subscriptTail Name Slice ref ref") => `(tactic| refine Stop.to ?_)
local macro_rules | `(tactic| walk_at "binaryOp Add ref ref") => `(tactic| refine Stop.to ?_)
local macro_rules | `(tactic| walk_at "call builtin:list.extend") => `(tactic| refine Stop.to ?_)
local macro_rules | `(tactic| walk_at "eval ListComp") => `(tactic| refine Stop.to ?_)
local macro_rules | `(tactic| walk_at "exec Assign cons Call") => `(tactic| (rename StopTold => hStopTold; refine Stop.to ?_))
local macro_rules | `(tactic| walk_at "call builtin:list.append") => `(tactic| (k_here; (with_reducible show wpAny _ _ (call (Value.builtin _) [Value.ref _, Value.ref _]) _ _ _); refine Stop.to ?_))
local macro_rules | `(tactic| walk_at "CompEnd") => `(tactic| k_dflt (refine' compEndAll ?cF ?cN ?cO ?cH ?_; (case cF => k_asm); (case cN => assumption); (case cO => first | assumption | (simp only [LCg.Off3, and_true]; assumption)); (case cH => lcg_src)))
local macro_rules | `(tactic| walk_at "compareOp NotIn int ref") => `(tactic| (k_here; k_dflt (refine notin_list_ints (News.isList (by k_asm) (by k_mem)) (by assumption) ?_)))
local macro_rules | `(tactic| walk_at "mine item") => `(tactic| (k_here; k_dflt (refine' itemV ?N ?m ?k ?x ?z ?_; (case N => k_asm); (case m => k_mem); (case x => assumption); (case k => first | omega | (simp; done)); (case z => omega))))
local macro_rules | `(tactic| walk_at "subscriptTail Name Name ref int") => `(tactic| walk_at "mine item")
local macro_rules | `(tactic| walk_at "subscriptTail Name Call ref int") => `(tactic| walk_at "mine item")
local macro_rules | `(tactic| walk_at "call builtin:str.join") => `(tactic| (k_here; k_dflt (refine' joinV _ _ _ _ _ ?_; walk_at "cc"); intros))
local macro_rules | `(tactic| walk_at "binaryOp Add str str") => `(tactic| (refine add_str (fun _ _ => ?_) ?asz; (case asz => (rw [sizeLine_eq]; simp only [Str.length_append, lenSl, lenSd, lenMp]; omega))))
local macro_rules | `(tactic| walk_at "eval Call") => `(tactic| refine Call_ ?_)
local macro_rules | `(tactic| walk_at "callWith ref") => `(tactic| (k_here; k_dflt (refine' callWith_K ?k1 ?k2 ?_; (case k1 => k_asm); (case k2 => k_is); k_whole)))
local macro_rules | `(tactic| walk_at "newList") => `(tactic| (k_here; k_dflt (refine' newList_K _ _ ?_; walk_at "cc"); walk_at "il"))
local macro_rules | `(tactic| walk_at "call builtin:list.index") => `(tactic| (k_here; k_dflt (refine' indexV _ _ _ _ _ ?_; walk_at "cc")))
local macro_rules | `(tactic| walk_at "subscriptTail") => `(tactic| (k_here; (with_reducible show wpAny _ _ (subscriptTail _ _ (Value.ref _) (Value.int (-1) _)) _ _ _); k_dflt (refine' lastV _ _ _ _ ?_; walk_at "cc"); intros))
local macro_rules | `(tactic| walk_at "eval Name") => `(tactic| (k_here; k_dflt (refine' nameX_L ?F ?v ?_; (case F => k_asm); (case v => first | exact M6.off (by with_reducible assumption) rfl | rfl))))
local macro_rules | `(tactic| walk_at "storeName") => `(tactic| (k_here; k_dflt (refine' storeS _ _ ?_; walk_at "cc"); intros; (try k_sweep)))
local macro_rules | `(tactic| walk_at "storeName") => `(tactic| (k_here; k_dflt (refine' storeIntS _ _ ?_; walk_at "cc"); intros; (try k_sweep)))
local macro_rules | `(tactic| walk_at "storeName") => `(tactic| (rename StopM => hStopM; refine Stop.to ?_))

theorem law02 : PySem.Challenge.rw_pg0172_02.Holds := Mine.hd (by
  w_top off
  k_go0
  all_goals try k_fold
  refine genQE fun Q9 hQ9 => ?_
  rename Shared => s1
  rename List Int => ns
  rename Fr _ _ _ _ => F0
  rename News _ _ _ _ => N0
  obtain ⟨g0, l0, m0, eg, el, em⟩ := capF3 F0
  obtain ⟨n0, en⟩ := capN2 N0
  refine' split_tail (T := ∀ (h2 : Heap) (tk tm : Nat) (mm : Int), 1 ≤ mm → mm ≤ 1000000 → Fr g0 l0 h2 m0 → News g0 l0 h2 n0 → wpAny (model PySem.Challenge.rw_pg0172_02.row.prog _) _ (storeName _ (Str.ofString "m") (.int mm tm)) _ _ { s1 with heap := h2, toks := tk }) ?S0m_s20 ?S0t_s20
  case S0m_s20 =>
    intro hT
    subst eg el
    have hStop0 := StopM.yes
    k_steps
    · unfold Stop
      rw [← em, ← en] at hT
      refine' hT _ _ _ _ ?a1_s20 ?a2_s20 ?a3_s20 ?a4_s20
      case a1_s20 => decide
      case a2_s20 => decide
      case a3_s20 => assumption
      case a4_s20 => exact News.sub (by assumption) (by walk_at "mine sub2")
    · exfalso
      rename decide (_ = []) = false => hne
      cases ns with
      | nil => simp at hne
      | cons x r => rename _ ∨ _ => hor; simp at hor; omega
    · unfold Stop
      rw [← em, ← en] at hT
      have hq := Int.fmod_nonneg_of_pos (ns.getD (if (0 : Int) < 0 then 0 + (ns.length : Int) else 0).toNat 0) (b := 1000000) (by decide)
      have hq2 := Int.fmod_lt_of_pos (ns.getD (if (0 : Int) < 0 then 0 + (ns.length : Int) else 0).toNat 0) (b := 1000000) (by decide)
      refine' hT _ _ _ _ ?b1_s20 ?b2_s20 ?b3_s20 ?b4_s20
      case b1_s20 => omega
      case b2_s20 => omega
      case b3_s20 => assumption
      case b4_s20 => exact News.sub (by assumption) (by walk_at "mine sub2")
  case S0t_s20 =>
    subst eg el
    have q0 : m0 (Str.ofString "script") = some (.ref _) := (congrFun em.symm _).trans rfl
    clear em
    w_top off
    refine' split_tail (T := ∀ (h2 : Heap) (tk tw tm : Nat) (D K : Nat) (ys : List Value) (zs : List Int) (o3 o2 o1 : Obj) (v3 : Option Value) (way mm : Int), 1 ≤ mm → mm ≤ 1000000 → o3.data = .cell v3 → o2.data = .cell (some (.int way tw)) → o1.data = .cell (some (.int mm tm)) →
        IntsAre ys zs → (∀ z ∈ zs, 0 ≤ z ∧ z ≤ 4 * mm + 2) → zs.length ≤ 7 → 3 ≤ zs.length → (s1.heap.objs.size + 1 + 1 + 1 ≠ D ∧ s1.heap.objs.size + 1 + 1 ≠ D ∧ s1.heap.objs.size + 1 ≠ D ∧ 44 ≠ D ∧ 37 ≠ D) → s1.heap.objs.size + 1 + 1 + 1 < K → D < K →
        Fr (ghostOf s1.heap [(48, 44), (41, 37)]) s1.heap.objs.size h2 (M6 m0 [(Str.ofString "drawn", some (.ref D)), (Str.ofString "known", some (.ref K))]) →
        News (ghostOf s1.heap [(48, 44), (41, 37)]) s1.heap.objs.size h2 [(K, W.listOf #[] 0), (D, LCg.lst ys), (s1.heap.objs.size + 1 + 1 + 1, o3), (s1.heap.objs.size + 1 + 1, o2), (s1.heap.objs.size + 1, o1), (44, tabObj #[]), (37, tabObj #[])] →
        wpAny (model PySem.Challenge.rw_pg0172_02.row.prog _) _ (pyIter (.ref D)) _ _ { s1 with heap := h2, toks := tk }) ?S1m_s21 ?S1t_s21
    case S1m_s21 =>
      intro hT h2 tk tm mm hmm0 hmm1 F0 N0
      subst en
      replace F0 : Fr _ _ h2 (M6 m0 []) := F0
      k_steps
      ((try unfold Stop); k_dflt (refine LCg.Assign_ListComp_U (F₀ := by k_asm) (by rfl) (by with_unfolding_all rfl) (by with_unfolding_all rfl) (by decide) (by rfl) (by decide) (by rfl) (by rfl) (by rfl) ?_))
      k_steps
      ((try unfold Stop); k_dflt (refine' kmk_slice_ints ?FX2_s21 ?NX2_s21 ?lX2_s21 ?pX2_s21 ?qX2_s21 ?iX2_s21 ?mX2_s21 ?cX2_s21 ?_ ?sX2_s21 ?tX2_s21 ?zX2_s21; (case FX2_s21 => k_asm); (case NX2_s21 => k_asm); (case lX2_s21 => kmk_list); (case pX2_s21 => kmk_part); (case qX2_s21 => kmk_part); (case iX2_s21 => assumption); (case mX2_s21 => first | (with_reducible refine' kmk_run ?maX2_s21 ?mbX2_s21 ?mcX2_s21; (case maX2_s21 => assumption); (case mbX2_s21 => omega); (case mcX2_s21 => omega)) | (with_reducible refine' kmk_from ?mdX2_s21 ?meX2_s21; (case mdX2_s21 => assumption); (case meX2_s21 => omega)) | (with_reducible refine' kmk_upto ?mfX2_s21 ?mgX2_s21; (case mfX2_s21 => assumption); (case mgX2_s21 => omega))); (case cX2_s21 => exact rfl); (case sX2_s21 => with_unfolding_all rfl); (case tX2_s21 => kmk_pure); (case zX2_s21 => exact vsz (by assumption) (by omega))); intro D' ws' h' F' N' l1 hI' hC' hl'; (try k_lt l1); (try k_sweep))
      k_steps
      ((try unfold Stop); k_dflt (refine' kmk_add_ints ?FX3_s21 ?NX3_s21 ?aX3_s21 ?bX3_s21 ?iX3_s21 ?jX3_s21 ?_ ?zX3_s21; (case FX3_s21 => k_asm); (case NX3_s21 => k_asm); (case aX3_s21 => kmk_list); (case bX3_s21 => kmk_list); (case iX3_s21 => first | assumption | l_ints); (case jX3_s21 => first | assumption | l_ints); (case zX3_s21 => (simp only [List.length_append, List.length_reverse, List.length_replicate, List.length_take, List.length_drop, List.length_cons, List.length_nil, sizeLine_eq]; first | exact Nat.le_trans (len7 _).1 (by decide) | omega))); intro D' ws' h' F' N' l1 hI'; (try k_lt l1); (try k_sweep))
      k_steps
      unfold Stop
      rename News _ _ _ _ => N1
      rename Fr _ _ _ _ => F1
      rename IntsAre _ _ => I1
      obtain ⟨n1, en1⟩ := capN2 N1
      refine' LCg.CompSrc.ledger rfl F1 N1 ?hm_s21 ?hsz_s21 ?_
      case hm_s21 => k_mem
      case hsz_s21 => exact vsz I1 (by simp only [List.length_append, List.length_take, List.length_drop, List.length_cons, List.length_nil]; exact Nat.le_trans (len7 _).1 (by decide))
      intro g
      refine compInv (J := fun i ys nw => Stop (nw = n1 ∧ ∃ zs, IntsAre ys zs ∧ zs.length = i ∧ ∀ z ∈ zs, 0 ≤ z ∧ z ≤ 4 * mm + 2)) ?turn_s21 ?fin_s21 _ 0 [] _ (Nat.zero_add _) ⟨en1, [], .nil, rfl, fun z hz => nomatch hz⟩
      case turn_s21 =>
        rintro i ys nw v I oI C oC D m₂ h tk E' hi ⟨rfl, zs, hys, hzl, hzb⟩ hv hC hx F2 N2 off ne
        subst en1
        obtain ⟨t, hlt, rfl⟩ := ints_at I1 (by simpa using hv)
        generalize hxv : List.getD _ i (0 : Int) = xv at *
        simp only [LCg.Off3, and_true] at off
        have hq := Int.fmod_nonneg_of_pos xv (b := 4 * mm + 3) (by omega)
        have hq2 := Int.fmod_lt_of_pos xv (b := 4 * mm + 3) (by omega)
        k_steps
        refine ⟨rfl, zs ++ [xv.fmod (4 * mm + 3)], IntsAre.append hys (.cons _ _ .nil), by simp [hzl], ?_⟩
        intro z hz
        rcases List.mem_append.mp hz with hz | hz
        · exact hzb z hz
        · rw [List.mem_singleton.mp hz]; omega
      case fin_s21 =>
        rintro ys nw ⟨rfl, zs, hys, hzl, hzb⟩
        subst en1
        have hz7 : zs.length ≤ 7 ∧ 3 ≤ zs.length := by
          rw [hzl, List.size_toArray, I1.length]
          simp only [List.length_append, List.length_take, List.length_drop, List.length_cons, List.length_nil]
          exact len7 _
        clear hzl
        unfold LCg.FinA
        intro D5 h5 tk5 F5 N5 o5
        replace F5 := Fr.upd F5
        simp only [LCg.Off1, and_true] at o5
        k_steps
        unfold Stop
        refine' hT _ _ _ _ _ _ _ _ _ _ _ _ _ _ ?q1_s21 ?q2_s21 ?qe_s21 ?q3_s21 ?q4_s21 ?q5_s21 ?q6_s21 ?q7_s21 ?q8_s21 ?q9_s21 ?qa_s21 ?qd_s21 ?qb_s21 ?qc_s21
        case qc_s21 => exact News.sub (by assumption) (by walk_at "mine sub2")
        case qe_s21 => assumption
        case qb_s21 => assumption
        case q1_s21 => assumption
        case q2_s21 => assumption
        case q3_s21 => assumption
        case q4_s21 => assumption
        case q5_s21 => assumption
        case q6_s21 => assumption
        case q7_s21 => exact hz7.1
        case q8_s21 => exact hz7.2
        case q9_s21 => exact o5.2.2.2
        case qa_s21 => omega
        case qd_s21 => omega
    case S1t_s21 =>
      w_top off
      intro h2 tk tw tm D K ys zs o3 o2 o1 v3 way mm hmm0 hmm1 ho3 ho2 ho1 hys hzb hz7 hz3 hDs hK1 hK2 F2 N2
      obtain ⟨hDs1, hDs2, hDs3, hDs4, hDs5⟩ := hDs
      obtain ⟨m1, em1⟩ := capM2 F2
      have qs : m1 (Str.ofString "script") = some (.ref _) := (congrFun em1.symm _).trans q0
      have qD : m1 (Str.ofString "drawn") = some (.ref D) := (congrFun em1.symm _).trans rfl
      have qK : m1 (Str.ofString "known") = some (.ref K) := (congrFun em1.symm _).trans rfl
      rw [em1] at F2
      clear em1 q0
      refine' split_tail (T := ∀ (h2 : Heap) (tk ep : Nat) (kvs : List Value) (kn : List Int) (u1 u2 : Option Value), IntsAre kvs kn → (∀ z ∈ kn, 0 ≤ z ∧ z ≤ 4 * mm + 3) → (∀ z ∈ zs, z ∈ kn) → kn.length ≤ 14 →
          Fr (ghostOf s1.heap [(48, 44), (41, 37)]) s1.heap.objs.size h2 (M6 m1 [(Str.ofString "n", u1), (Str.ofString "one", u2)]) →
          News (ghostOf s1.heap [(48, 44), (41, 37)]) s1.heap.objs.size h2 [(K, W.listOf kvs.toArray ep), (D, LCg.lst ys), (s1.heap.objs.size + 1 + 1 + 1, o3), (s1.heap.objs.size + 1 + 1, o2), (s1.heap.objs.size + 1, o1), (44, tabObj #[]), (37, tabObj #[])] →
          wpAny (model PySem.Challenge.rw_pg0172_02.row.prog _) _ (exec _ _) _ _ { s1 with heap := h2, toks := tk }) ?S2m_s22 ?S2t_s22
      case S2m_s22 =>
        intro hT
        refine' iterL (J := fun i m' n' => Stop (∃ (kvs : List Value) (kn : List Int) (ep : Nat) (u1 u2 : Option Value), m' = M6 m1 [(Str.ofString "n", u1), (Str.ofString "one", u2)] ∧ n' = (K, W.listOf kvs.toArray ep) :: [(D, LCg.lst ys), (s1.heap.objs.size + 1 + 1 + 1, o3), (s1.heap.objs.size + 1 + 1, o2), (s1.heap.objs.size + 1, o1), (44, tabObj #[]), (37, tabObj #[])] ∧
            IntsAre kvs kn ∧ (∀ z ∈ kn, 0 ≤ z ∧ z ≤ 4 * mm + 3) ∧ (∀ z ∈ zs.take i, z ∈ kn) ∧ kn.length ≤ 2 * i)) (vs := ys) (lo := LCg.lst ys) rfl F2 N2 ?hm_s22 rfl rfl ?h0_s22 ?hJ_s22 ?turn_s22 ?done_s22
        case hm_s22 => k_mem
        case h0_s22 =>
          refine' ⟨[], [], 0, _, _, ?za_s22, ?zb_s22, .nil, (fun z hz => nomatch hz), (fun z hz => (by simp at hz)), Nat.le_refl _⟩
          case za_s22 => exact M6_self m1 [Str.ofString "n", Str.ofString "one"]
          case zb_s22 => rfl
        case hJ_s22 =>
          rintro i m' n' ⟨kvs, kn, ep, u1, u2, rfl, rfl, _⟩
          k_mem
        case turn_s22 =>
          rintro I i v m₁ news₁ it h tk hv ⟨kvs, kn, ep, u1, u2, rfl, rfl, hkv, hkb, hkz, hkl⟩ hit hne F₁ N₁
          obtain ⟨t, hlt, rfl⟩ := ints_at hys hv
          have hxm : zs.getD i 0 ∈ zs := by
            rw [List.getD_eq_getElem?_getD, List.getElem?_eq_getElem hlt]
            exact List.getElem_mem hlt
          obtain ⟨hx0, hx1⟩ := hzb _ hxm
          have htk : zs.take (i + 1) = zs.take i ++ [zs.getD i 0] := by
            rw [List.take_add_one, List.getD_eq_getElem?_getD, List.getElem?_eq_getElem hlt]; rfl
          generalize hxv : List.getD zs i (0 : Int) = xv at *
          have hne2 := neAll_of hne
          simp only [NeAll, and_true] at hne2
          replace F₁ := Fr.upd F₁
          refine forGen fun J1 Q1 hJ1 hQ1 => ?_
          k_steps
          unfold Stop
          rename News _ _ _ _ => N3
          rename Fr _ _ _ _ => F3
          obtain ⟨l2, ol2, r2, rfl, eol2, er2, N4⟩ := cap1 N3
          subst er2
          refine' iterL (J := fun j m' n' => Stop (∃ (kvs : List Value) (kn : List Int) (ep : Nat) (u : Option Value), m' = M6 m1 [(Str.ofString "n", some (.int xv t)), (Str.ofString "one", u)] ∧ n' = (l2, ol2) :: (I, it) :: (K, W.listOf kvs.toArray ep) :: [(D, LCg.lst ys), (s1.heap.objs.size + 1 + 1 + 1, o3), (s1.heap.objs.size + 1 + 1, o2), (s1.heap.objs.size + 1, o1), (44, tabObj #[]), (37, tabObj #[])] ∧
            IntsAre kvs kn ∧ (∀ z ∈ kn, 0 ≤ z ∧ z ≤ 4 * mm + 3) ∧ (∀ z ∈ zs.take i, z ∈ kn) ∧ (1 ≤ j → xv ∈ kn) ∧ kn.length ≤ 2 * i + j)) (vs := [Value.int xv t, Value.int (xv + 1) _]) (lo := ol2) rfl F3 N4 ?hm2_s22 ?hc2_s22 ?hd2_s22 ?h02_s22 ?hJ2_s22 ?turn2_s22 ?done2_s22
          case hd2_s22 => rw [← eol2]
          case hm2_s22 => k_mem
          case hc2_s22 => rw [← eol2]
          case h02_s22 =>
            refine' ⟨kvs, kn, ep, _, ?zc_s22, rfl, hkv, hkb, hkz, (fun h => absurd h (by decide)), by omega⟩
            case zc_s22 => rfl
          case hJ2_s22 =>
            rintro j m' n' ⟨kvs, kn, ep, u, rfl, rfl, _⟩
            k_mem
          case turn2_s22 =>
            rintro I2 j v m₃ news₃ it2 h3 tk3 hv3 ⟨kvs2, kn2, ep2, u, rfl, rfl, hkv2, hkb2, hkz2, hk12, hkl2⟩ hit2 hne3 F₃ N₃
            replace F₃ := Fr.upd F₃
            refine forGen fun J2 Q2 hJ2 hQ2 => ?_
            have hne4 := neAll_of hne3
            simp only [NeAll, and_true] at hne4
            obtain ⟨y, ty, rfl, hy⟩ : ∃ y ty, v = .int y ty ∧ ((j = 0 ∧ y = xv) ∨ (j = 1 ∧ y = xv + 1)) := by
              match j, hv3 with
              | 0, h => exact ⟨xv, t, (Option.some.inj h).symm, .inl ⟨rfl, rfl⟩⟩
              | 1, h => exact ⟨xv + 1, _, (Option.some.inj h).symm, .inr ⟨rfl, rfl⟩⟩
              | k + 2, h => simp at h
            have hkvl : kvs2.length ≤ 1000 := by rw [hkv2.length]; omega
            k_steps
            · rename (kn2.any _) = true => hany
              refine' TurnEnd.intro ?tF_s22 ?tN_s22 ?tn_s22 ?tJ_s22
              case tF_s22 => assumption
              case tN_s22 => assumption
              case tn_s22 => exact hne3
              case tJ_s22 =>
                refine' hJ2 _ _ ⟨kvs2, kn2, ep2, _, ?zd_s22, rfl, hkv2, hkb2, hkz2, ?ze_s22, by omega⟩
                case zd_s22 => rfl
                case ze_s22 =>
                  intro _
                  rcases hy with ⟨_, rfl⟩ | ⟨h1, _⟩
                  · simpa using hany
                  · exact hk12 (by omega)
            · rename (kn2.any _) = false => hany
              refine' TurnEnd.intro ?tF2_s22 ?tN2_s22 ?tn2_s22 ?tJ2_s22
              case tF2_s22 => assumption
              case tN2_s22 => assumption
              case tn2_s22 => k_all
              case tJ2_s22 =>
                refine' hJ2 _ _ ⟨_, kn2 ++ [y], _, _, ?zf_s22, rfl, IntsAre.append hkv2 (.cons _ _ .nil), ?zg_s22, ?zh_s22, ?zi_s22, by simp; omega⟩
                case zf_s22 => rfl
                case zg_s22 =>
                  intro z hz
                  rcases List.mem_append.mp hz with hz | hz
                  · exact hkb2 z hz
                  · rw [List.mem_singleton.mp hz]; omega
                case zh_s22 => exact fun z hz => List.mem_append_left _ (hkz2 z hz)
                case zi_s22 =>
                  intro _
                  rcases hy with ⟨_, rfl⟩ | ⟨h1, _⟩
                  · exact List.mem_append_right _ (.head _)
                  · exact List.mem_append_left _ (hk12 (by omega))
          case done2_s22 =>
            rintro h3 tk3 m' news' F₃ N₃ ⟨kvs2, kn2, ep2, u, rfl, rfl, hkv2, hkb2, hkz2, hk12, hkl2⟩
            k_steps
            refine' TurnEnd.intro ?tF3_s22 ?tN3_s22 ?tn3_s22 ?tJ3_s22
            case tF3_s22 => assumption
            case tJ3_s22 =>
              refine' hJ1 _ _ ⟨kvs2, kn2, ep2, _, _, ?zj_s22, rfl, hkv2, hkb2, ?zk_s22, ?zl_s22⟩
              case zj_s22 => rfl
              case zk_s22 =>
                rw [htk]
                intro z hz
                rcases List.mem_append.mp hz with hz | hz
                · exact hkz2 z hz
                · rw [List.mem_singleton.mp hz]; exact hk12 (by simp)
              case zl_s22 => simp only [List.length_cons, List.length_nil] at hkl2; omega
            case tN3_s22 => exact News.sub (by assumption) (by walk_at "mine sub2")
            case tn3_s22 => exact ne_swap hne
        case done_s22 =>
          rintro h' tk' m' news' F' N' ⟨kvs, kn, ep, u1, u2, rfl, rfl, hkv, hkb, hkz, hkl⟩
          k_steps
          unfold Stop
          have hyl := hys.length
          rw [hyl, List.take_length] at hkz
          refine' hT _ _ _ kvs kn u1 u2 hkv hkb hkz ?zm_s22 ?zn_s22 ?zo_s22
          case zo_s22 => assumption
          case zm_s22 => omega
          case zn_s22 => assumption
      case S2t_s22 =>
        w_top off
        obtain ⟨Wd, hW, hW1, hW2⟩ := width_ex hmm1
        refine' split_tail (T := ∀ (h2 : Heap) (tk t u v : Nat) (CL R rg ep : Nat) (kvs : List Value) (kn : List Int) (cs : List CO) (u1 u2 : Option Value) (tl : List (Addr × Obj)),
            IntsAre kvs kn → (∀ z ∈ kn, 0 ≤ z ∧ z ≤ 4 * mm + 3) → (∀ z ∈ zs, z ∈ kn) → kn.length ≤ 14 → TabS tl → IntsOk (codeI mm Wd) cs kn →
            (∀ p ∈ (CL, LCg.lst (cs.map coRef)) :: (K, W.listOf kvs.toArray ep) :: (D, LCg.lst ys) :: (s1.heap.objs.size + 1 + 1 + 1, o3) :: (s1.heap.objs.size + 1 + 1, o2) :: (s1.heap.objs.size + 1, o1) :: (cs.map coObj ++ tl), p.1 < R) →
            IsRange h2 rg 0 (kn.length : Int) 1 t u v →
            Fr (ghostOf s1.heap [(48, 44), (41, 37)]) s1.heap.objs.size h2 (M6 m1 [(Str.ofString "n", u1), (Str.ofString "one", u2), (Str.ofString "codes", some (.ref CL)), (Str.ofString "readers", some (.ref R))]) →
            News (ghostOf s1.heap [(48, 44), (41, 37)]) s1.heap.objs.size h2 ((R, W.listOf #[] 0) :: (CL, LCg.lst (cs.map coRef)) :: (K, W.listOf kvs.toArray ep) :: (D, LCg.lst ys) :: (s1.heap.objs.size + 1 + 1 + 1, o3) :: (s1.heap.objs.size + 1 + 1, o2) :: (s1.heap.objs.size + 1, o1) :: (cs.map coObj ++ tl)) →
            wpAny (model PySem.Challenge.rw_pg0172_02.row.prog _) _ (pyIter (.ref rg)) _ _ { s1 with heap := h2, toks := tk }) ?S3m_s23 ?S3t_s23
        case S3m_s23 =>
          intro hT h2 tk ep kvs kn u1 u2 hkv hkb hkz hkl F2 N2
          ((try unfold Stop); k_dflt (refine LCg.Assign_ListComp_U (F₀ := by k_asm) (by rfl) (by with_unfolding_all rfl) (by with_unfolding_all rfl) (by decide) (by rfl) (by decide) (by rfl) (by rfl) (by rfl) ?_))
          k_steps
          unfold Stop
          have N3 := News.sub N2 (l' := (K, W.listOf kvs.toArray ep) :: (D, LCg.lst ys) :: (s1.heap.objs.size + 1 + 1 + 1, o3) :: (s1.heap.objs.size + 1 + 1, o2) :: (s1.heap.objs.size + 1, o1) :: (([] : List CO).map coObj ++ [(37, tabObj #[]), (44, tabObj #[])])) (by simp only [List.map_nil, List.nil_append]; walk_at "mine sub2")
          have TS0 : TabS [(37, tabObj #[]), (44, tabObj #[])] := ⟨[_], [_], rfl, .inl rfl, .inl rfl⟩
          refine' LCg.CompSrc.ledger rfl ?hF_s23 ?hN_s23 ?hm_s23 ?hsz_s23 ?_
          case hF_s23 => k_asm
          case hN_s23 => exact N3
          case hm_s23 => k_mem
          case hsz_s23 => exact vsz hkv (by omega)
          intro g
          refine' compInv (J := fun i yc nw => Stop (∃ (cs : List CO) (tl : List (Addr × Obj)), TabS tl ∧ nw = (K, W.listOf kvs.toArray ep) :: (D, LCg.lst ys) :: (s1.heap.objs.size + 1 + 1 + 1, o3) :: (s1.heap.objs.size + 1 + 1, o2) :: (s1.heap.objs.size + 1, o1) :: (cs.map coObj ++ tl) ∧ yc = cs.map coRef ∧ IntsOk (codeI mm Wd) cs (kn.take i))) ?turn_s23 ?fin_s23 _ 0 [] _ (Nat.zero_add _) ?h0_s23
          case h0_s23 => exact ⟨[], _, TS0, rfl, rfl, trivial⟩
          case turn_s23 =>
            rintro i yc nw v I oI C oC Dc m₂ h tk E' hi ⟨cs, tl, TS, rfl, rfl, hcs⟩ hv hC hx F2 N2 off ne
            obtain ⟨t, hlt, rfl⟩ := ints_at hkv (by simpa using hv)
            have hxm : kn.getD i 0 ∈ kn := by
              rw [List.getD_eq_getElem?_getD, List.getElem?_eq_getElem hlt]
              exact List.getElem_mem hlt
            obtain ⟨hx0, hx1⟩ := hkb _ hxm
            have htk : kn.take (i + 1) = kn.take i ++ [kn.getD i 0] := by
              rw [List.take_add_one, List.getD_eq_getElem?_getD, List.getElem?_eq_getElem hlt]; rfl
            generalize hxv : List.getD kn i (0 : Int) = xv at *
            have off2 := off.mem
            obtain ⟨⟨p37, h37⟩, ⟨p44, h44⟩⟩ := TS.mems
            have hI37 : @Ne Nat I 37 ∧ @Ne Nat I 44 := ⟨Ne.symm (off2 _ (walk_mem h37)).1, Ne.symm (off2 _ (walk_mem h44)).1⟩
            have hC37 : @Ne Nat C 37 ∧ @Ne Nat C 44 := ⟨Ne.symm (off2 _ (walk_mem h37)).2.1, Ne.symm (off2 _ (walk_mem h44)).2.1⟩
            have pco := preOkCo cs
            k_steps
            unfold Stop
            refine' c_code (pre := _ :: _ :: _ :: _ :: _ :: _ :: _ :: _ :: _) ?kB_s23 ?kF_s23 ?kX_s23 ?kN_s23 ?kT_s23 ?kh_s23 ?kC1_s23 ?kC2_s23 ?kTS_s23 ?kpo_s23 ?kd_s23 ?ku_s23 _ _ _ _ _ _ ?kn0_s23 ?kn1_s23 ?km0_s23 ?km1_s23 _ ?kW_s23 ?kW1_s23 ?kW2_s23 ?_
            case kN_s23 => k_asm
            case kB_s23 => k_asm
            case kF_s23 => k_asm
            case kX_s23 => k_asm
            case kT_s23 => k_asm
            case kh_s23 => first | rfl | assumption
            case kC1_s23 => assumption
            case kC2_s23 => assumption
            case kTS_s23 => assumption
            case kpo_s23 => walk_at "mine preok"
            case kd_s23 => ktr_room
            case ku_s23 => ktr_units
            case kn0_s23 => first | assumption | omega
            case kn1_s23 => first | assumption | omega
            case km0_s23 => first | assumption | omega
            case km1_s23 => first | assumption | omega
            case kW1_s23 => assumption
            case kW2_s23 => assumption
            case kW_s23 => omega
            intro h' tk' ep' r' vs' tl' F' TS' G' N' l1 I'
            k_steps
            unfold Stop
            rename IntsAre _ (codeI _ _ _) => I3
            rename TabS _ => TS3
            rename Grow _ _ _ => G3
            rename (∀ p : Addr × Obj, p ∈ (_ ++ _ : List (Addr × Obj)) → p.1 < _) => l3
            rename News _ _ _ (_ :: (_ ++ _)) => N3
            refine' codes_step ?eF_s23 N3 l3 G3 TS3 off2 I3 hcs htk ?eH_s23
            case eF_s23 => k_asm
            case eH_s23 => lcg_src
          case fin_s23 =>
            rintro yc nw ⟨cs, tl, TS, rfl, rfl, hcs⟩
            have eL : kvs.toArray.size = kn.length := by rw [List.size_toArray, hkv.length]
            rw [eL, List.take_length] at hcs
            unfold LCg.FinA
            intro CL h5 tk5 F5 N5 o5
            replace F5 := Fr.upd F5
            (try simp only [LCg.Off1, and_true] at o5)
            k_steps
            unfold Stop
            refine' hT _ _ _ _ _ _ _ _ _ kvs kn cs _ _ tl hkv hkb hkz hkl TS hcs ?fl_s23 ?fr_s23 ?ff_s23 ?fn_s23
            case fn_s23 => assumption
            case fr_s23 => assumption
            case fl_s23 => assumption
            case ff_s23 => assumption
        case S3t_s23 =>
          w_top off
          rename World => w0
          intro h2 tk t0 u0 v0 CL R rg ep kvs kn cs u1 u2 tl hkv hkb hkz hkl TS hcs hRl hrng F2 N2
          obtain ⟨m2, em2⟩ := capM2 F2
          have qs2 : m2 (Str.ofString "script") = some (.ref _) := (congrFun em2.symm _).trans qs
          have qD2 : m2 (Str.ofString "drawn") = some (.ref D) := (congrFun em2.symm _).trans qD
          have qK2 : m2 (Str.ofString "known") = some (.ref K) := (congrFun em2.symm _).trans qK
          have qC2 : m2 (Str.ofString "codes") = some (.ref CL) := (congrFun em2.symm _).trans rfl
          have qR2 : m2 (Str.ofString "readers") = some (.ref R) := (congrFun em2.symm _).trans rfl
          rw [em2] at F2
          clear em2 qs qD qK
          refine' split_tail (T := ∀ (h2 : Heap) (tk RW epr : Nat) (rs : List Rd) (u3 u4 : Option Value),
              RdsOk PySem.Challenge.rw_pg0172_02.row.prog w0 1 (codeI mm Wd) rs kn →
              RdsApart w0.params rs ((CL, LCg.lst (cs.map coRef)) :: (K, W.listOf kvs.toArray ep) :: (D, LCg.lst ys) :: (s1.heap.objs.size + 1 + 1 + 1, o3) :: (s1.heap.objs.size + 1 + 1, o2) :: (s1.heap.objs.size + 1, o1) :: (cs.map coObj ++ tl)) →
              (∀ p ∈ rdsObjs w0.params rs, p.1 ≠ R) →
              (∀ p ∈ (R, W.listOf (rs.map (fun r => Value.ref r.x)).toArray epr) :: (CL, LCg.lst (cs.map coRef)) :: (K, W.listOf kvs.toArray ep) :: (D, LCg.lst ys) :: (s1.heap.objs.size + 1 + 1 + 1, o3) :: (s1.heap.objs.size + 1 + 1, o2) :: (s1.heap.objs.size + 1, o1) :: (cs.map coObj ++ tl ++ rdsObjs w0.params rs), p.1 < RW) →
              Fr (ghostOf s1.heap [(48, 44), (41, 37)]) s1.heap.objs.size h2 (M6 m2 [(Str.ofString "k", u3), (Str.ofString "parts", u4), (Str.ofString "row", some (.ref RW))]) →
              News (ghostOf s1.heap [(48, 44), (41, 37)]) s1.heap.objs.size h2 ((RW, W.listOf #[] 0) :: (R, W.listOf (rs.map (fun r => Value.ref r.x)).toArray epr) :: (CL, LCg.lst (cs.map coRef)) :: (K, W.listOf kvs.toArray ep) :: (D, LCg.lst ys) :: (s1.heap.objs.size + 1 + 1 + 1, o3) :: (s1.heap.objs.size + 1 + 1, o2) :: (s1.heap.objs.size + 1, o1) :: (cs.map coObj ++ tl ++ rdsObjs w0.params rs)) →
              wpAny (model PySem.Challenge.rw_pg0172_02.row.prog _) _ (pyIter (.ref D)) _ _ { s1 with heap := h2, toks := tk }) ?S4m_s24 ?S4t_s24
          case S4m_s24 =>
            intro hT
            refine' iterRng (n := kn.length) (J := fun i m' n' => Stop (∃ (rs : List Rd) (epr : Nat) (u3 u4 : Option Value), m' = M6 m2 [(Str.ofString "k", u3), (Str.ofString "parts", u4)] ∧
                n' = (R, W.listOf (rs.map (fun r => Value.ref r.x)).toArray epr) :: (CL, LCg.lst (cs.map coRef)) :: (K, W.listOf kvs.toArray ep) :: (D, LCg.lst ys) :: (s1.heap.objs.size + 1 + 1 + 1, o3) :: (s1.heap.objs.size + 1 + 1, o2) :: (s1.heap.objs.size + 1, o1) :: (cs.map coObj ++ tl ++ rdsObjs w0.params rs) ∧
                RdsOk PySem.Challenge.rw_pg0172_02.row.prog w0 1 (codeI mm Wd) rs (kn.take i) ∧
                RdsApart w0.params rs ((CL, LCg.lst (cs.map coRef)) :: (K, W.listOf kvs.toArray ep) :: (D, LCg.lst ys) :: (s1.heap.objs.size + 1 + 1 + 1, o3) :: (s1.heap.objs.size + 1 + 1, o2) :: (s1.heap.objs.size + 1, o1) :: (cs.map coObj ++ tl)) ∧ (∀ p ∈ rdsObjs w0.params rs, p.1 ≠ R))) rfl F2 N2 hrng (rng_small (by omega)) (rng_size _) ?h0_s24 ?turn_s24 ?done_s24
            case h0_s24 =>
              refine' ⟨[], 0, _, _, M6_self m2 [Str.ofString "k", Str.ofString "parts"], ?pb_s24, trivial, RdsApart.nil, fun q hq => nomatch hq⟩
              case pb_s24 => simp only [List.map_nil, List.flatMap_nil, List.append_nil]
            case turn_s24 =>
              rintro I i t m₁ news₁ it h tk3 hi ⟨rs, epr, u3, u4, rfl, rfl, hrs, hap, hRr⟩ hne F₁ N₁
              replace F₁ : Fr (ghostOf s1.heap [(48, 44), (41, 37)]) s1.heap.objs.size h _ := Fr.upd F₁
              refine forGen fun J1 Q1 hJ1 hQ1 => ?_
              replace N₁ : News (ghostOf s1.heap [(48, 44), (41, 37)]) s1.heap.objs.size h _ := N₁
              have hne2 := neAll_of hne
              simp only [NeAll] at hne2
              have hneB : ∀ p ∈ ((CL, LCg.lst (cs.map coRef)) :: (K, W.listOf kvs.toArray ep) :: (D, LCg.lst ys) :: (s1.heap.objs.size + 1 + 1 + 1, o3) :: (s1.heap.objs.size + 1 + 1, o2) :: (s1.heap.objs.size + 1, o1) :: (cs.map coObj ++ tl)) ++ rdsObjs w0.params rs, @Ne Nat p.1 I := fun p hp => hne p (.tail _ hp)
              have hiK : kn[i]? = some (kn.getD i 0) := by rw [List.getD_eq_getElem?_getD, List.getElem?_eq_getElem hi]; rfl
              obtain ⟨c, hci, hcI⟩ := hcs.get hiK
              have hcr : (cs.map coRef)[i]? = some (Value.ref c.1) := by rw [List.getElem?_map, hci]; rfl
              have hxm : kn.getD i 0 ∈ kn := List.mem_of_getElem? hiK
              obtain ⟨hx0, hx1⟩ := hkb _ hxm
              have htk : kn.take (i + 1) = kn.take i ++ [kn.getD i 0] := by rw [List.take_add_one, hiK]; rfl
              generalize hxv : List.getD kn i (0 : Int) = xv at *
              k_steps
              ((try unfold Stop); k_dflt (refine LCg.Assign_ListComp_U (F₀ := by k_asm) (by rfl) (by with_unfolding_all rfl) (by with_unfolding_all rfl) (by decide) (by rfl) (by decide) (by rfl) (by rfl) (by rfl) ?_))
              k_steps
              unfold Stop
              rename News _ _ _ _ => N3
              rename Fr _ _ _ _ => F3
              obtain ⟨n3, en3⟩ := capN2 N3
              have hbits := codeI_bits mm Wd xv
              have hclen := codeI_len hx0 hx1 hmm0 hW
              have hcne := codeI_ne mm Wd xv
              have hcm : (c.1, W.listOf c.2.1.toArray c.2.2) ∈ cs.map coObj := List.mem_map.mpr ⟨c, List.mem_of_getElem? hci, rfl⟩
              refine' LCg.CompSrc.ledger (its := c.2.1.toArray) (k := c.2.2) rfl F3 N3 ?hm_s24 ?hsz_s24 ?_
              case hm_s24 => (repeat (first | exact List.mem_append_left _ (List.mem_append_left _ hcm) | refine List.Mem.tail _ ?_))
              case hsz_s24 => exact vsz hcI (by omega)
              intro g
              refine compInv (J := fun j yc nw => Stop (nw = n3 ∧ StrsAre yc (((codeI mm Wd xv).take j).map wd))) ?tu_s24 ?fi_s24 _ 0 [] _ (Nat.zero_add _) ⟨en3, .nil⟩
              case tu_s24 =>
                rintro j yc nw v I2 oI C oC Dc m₂ h4 tk4 E' hj ⟨rfl, hyc⟩ hv hC hx F4 N4 off ne
                subst en3
                obtain ⟨t5, hlt5, rfl⟩ := ints_at hcI (by simpa using hv)
                have hjt : (codeI mm Wd xv).take (j + 1) = (codeI mm Wd xv).take j ++ [(codeI mm Wd xv).getD j 0] := by rw [List.take_add_one, List.getD_eq_getElem?_getD, List.getElem?_eq_getElem hlt5]; rfl
                have hb2 := bits_getD hbits j
                generalize hyv : List.getD (codeI mm Wd xv) j (0 : Int) = yv at *
                k_steps
                unfold Stop
                refine' compEndAll ?cF_s24 ?cN_s24 ?cO_s24 ?cH_s24 ?_
                case cF_s24 => k_asm
                case cN_s24 => exact N4
                case cO_s24 => exact off
                case cH_s24 =>
                  exact Or.inr ⟨W.listOf c.2.1.toArray c.2.2, by (repeat (first | exact List.mem_append_left _ (List.mem_append_left _ hcm) | refine List.Mem.tail _ ?_)), rfl, _, rfl⟩
                refine ⟨rfl, ?_⟩
                rw [hjt, List.map_append]
                exact strsAre_append hyc (.cons _ _ .nil)
              case fi_s24 =>
                rintro yc nw ⟨rfl, hyc⟩
                subst en3
                have eL : c.2.1.toArray.size = (codeI mm Wd xv).length := by rw [List.size_toArray, hcI.length]
                rw [eL, List.take_length] at hyc
                have hMk := hbits.mk
                have hc30 : (codeI mm Wd xv).length ≤ 30 := by omega
                have d0 : (((codeI mm Wd xv).map wd).map (·.length)).sum + ((codeI mm Wd xv).map wd).length * 64 ≤ 16777216 := by have := wds_len hMk; rw [List.length_map]; omega
                have j1 : (PySem.Txt.join (Str.ofString ".") ((codeI mm Wd xv).map wd)).length ≤ 100000 := by have := join_len hbits.mk lenDot; omega
                have j2 : (PySem.Txt.join (Str.ofString "/") ((codeI mm Wd xv).map wd)).length ≤ 100000 := by have := join_len hbits.mk lenSl; omega
                obtain ⟨t9, hkvi⟩ := hkv.get i xv hiK
                have hRt : ∀ p ∈ cs.map coObj ++ tl ++ rdsObjs w0.params rs, p.1 ≠ R := fun p hp => by
                  rcases List.mem_append.mp hp with hp | hp
                  · exact Nat.ne_of_lt (hRl p (.tail _ (.tail _ (.tail _ (.tail _ (.tail _ (.tail _ hp)))))))
                  · exact hRr p hp
                have hRl2 := allLt_of hRl
                simp only [AllLt, and_true] at hRl2
                have hrl : (rs.map (fun r => Value.ref r.x)).length ≤ 1000000 := by
                  have := hrs.length
                  rw [List.length_take] at this
                  rw [List.length_map]; omega
                unfold LCg.FinA
                intro PL h5 tk5 F5 N5 o5
                replace F5 := Fr.upd F5
                (try simp only [LCg.Off1, and_true] at o5)
                k_steps
                · unfold Stop
                  refine' c_readerM ?kB_s24 ?kF_s24 ?kX_s24 ?kN_s24 ?kT_s24 ?kh_s24 ?kd_s24 ?ku_s24 ?kx_s24 ?_
                  case kN_s24 => k_asm
                  case kB_s24 => k_asm
                  case kF_s24 => k_asm
                  case kX_s24 => k_asm
                  case kT_s24 => k_asm
                  case kh_s24 => first | rfl | assumption
                  case kd_s24 => ktr_room
                  case ku_s24 => ktr_units
                  case kx_s24 => assumption
                  intro h' tk' t' t1' t2' t3' n' x' dx' S' l' ig' io' F' N' hD' hm' l1 l2 l3 l4 l5
                  have l6 := allA5_of (apart5_lt l1 l2 l3 l4 l5)
                  simp only [AllA5, Apart5, and_true] at l6
                  k_steps
                  unfold Stop
                  rename News _ _ _ _ => N5
                  rename Fr _ _ _ (M6 _ _) => F5
                  rename Obj.IsDictOf _ _ _ => hD5
                  obtain ⟨r5, rfl, rfl, rso, rlo, rfl, rOwn, rOff, N6⟩ := capRd N5 ⟨by omega, by omega, by omega, by omega⟩ (apart5_lt (by assumption) (by assumption) (by assumption) (by assumption) (by assumption))
                  have rR : Off5 r5 R := rOff (R, W.listOf (rs.map (fun r => Value.ref r.x)).toArray epr) (by k_mem)
                  have rI : Off5 r5 I := rOff (I, it) (by k_mem)
                  refine' appendH (n := epr) (rest := r5.objs w0.params ++ (I, it) :: (((CL, LCg.lst (cs.map coRef)) :: (K, W.listOf kvs.toArray ep) :: (D, LCg.lst ys) :: (s1.heap.objs.size + 1 + 1 + 1, o3) :: (s1.heap.objs.size + 1 + 1, o2) :: (s1.heap.objs.size + 1, o1) :: (cs.map coObj ++ tl)) ++ rdsObjs w0.params rs)) F5 N6 ?mM_s24 ?sM_s24 ?oM_s24 hrl ?_
                  case mM_s24 => exact List.mem_append_right _ (by k_mem)
                  case sM_s24 => refine app_sub ?_; walk_at "mine sub2"
                  case oM_s24 =>
                    intro p hp
                    rcases List.mem_append.mp hp with hp | hp
                    · exact off5_objs rR p hp
                    · rcases List.mem_cons.mp hp with rfl | hp
                      · exact Ne.symm hne2.1
                      · rcases List.mem_append.mp hp with hp | hp
                        · exact Nat.ne_of_lt (hRl p hp)
                        · exact hRr p hp
                  intro h6 F6 N7
                  k_steps
                  refine' TurnEnd.intro ?tFM_s24 ?tNM_s24 ?tnM_s24 ?tJM_s24
                  case tFM_s24 => assumption
                  case tNM_s24 => exact rd_ledger N7
                  case tJM_s24 =>
                    refine' hJ1 _ _ ⟨rs ++ [r5], _, _, _, ?jaM_s24, rfl, ?jbM_s24, ?jcM_s24, ?jdM_s24⟩
                    case jaM_s24 => rfl
                    case jbM_s24 =>
                      rw [htk]
                      refine RdsOk.snoc ⟨⟨_, hD5, KvOk.init, Nat.le_refl _⟩, by assumption, .inl ⟨(fd_pos xv (by decide : (0 : Int) < 2)).2.trans (by assumption), _, rso.symm, rlo.symm⟩⟩ hrs
                    case jcM_s24 =>
                      refine RdsApart.snoc hap rOwn (fun p hp => rOff p ?_) (fun p hp => rOff p ?_)
                      · refine app_right_sub (l := (CL, LCg.lst (cs.map coRef)) :: (K, W.listOf kvs.toArray ep) :: (D, LCg.lst ys) :: (s1.heap.objs.size + 1 + 1 + 1, o3) :: (s1.heap.objs.size + 1 + 1, o2) :: (s1.heap.objs.size + 1, o1) :: (cs.map coObj ++ tl)) ?_ p hp; walk_at "mine sub2"
                      · refine app_left_sub (r := rdsObjs w0.params rs) ?_ p hp; walk_at "mine sub2"
                    case jdM_s24 =>
                      intro p hp
                      rw [rds_snoc] at hp
                      rcases List.mem_append.mp hp with hp | hp
                      · exact hRr p hp
                      · exact off5_objs rR p hp
                  case tnM_s24 =>
                    intro p hp
                    rcases List.mem_cons.mp hp with rfl | hp
                    · exact hne (R, W.listOf (rs.map (fun r => Value.ref r.x)).toArray epr) (.head _)
                    · rcases List.mem_append.mp hp with hp | hp
                      · exact hneB p (List.mem_append_left _ hp)
                      · rw [rds_snoc] at hp
                        rcases List.mem_append.mp hp with hp | hp
                        · exact hneB p (List.mem_append_right _ hp)
                        · exact off5_objs rI p hp
                · unfold Stop
                  refine' c_readerD ?gB_s24 ?gF_s24 ?gX_s24 ?gN_s24 ?gT_s24 ?gh_s24 ?gd_s24 ?gu_s24 ?gm_s24 ?gne_s24 ?glen_s24 ?_
                  case gN_s24 => k_asm
                  case gB_s24 => k_asm
                  case gF_s24 => k_asm
                  case gX_s24 => k_asm
                  case gT_s24 => k_asm
                  case gh_s24 => first | rfl | assumption
                  case gd_s24 => ktr_room
                  case gu_s24 => ktr_units
                  case gm_s24 => assumption
                  case gne_s24 => assumption
                  case glen_s24 => assumption
                  intro h' tk' t' tr' t1' t2' t3' n' epd' led' x' dx' S' l' ig' io' F' N' hD' hm' l1 l2
                  have l3 := allA5_of l1
                  simp only [AllA5, Apart5, and_true] at l3
                  k_steps
                  unfold Stop
                  rename News _ _ _ _ => N5
                  rename Fr _ _ _ (M6 _ _) => F5
                  rename Obj.IsDictOf _ _ _ => hD5
                  obtain ⟨r5, rfl, rfl, rso, rlo, rfl, rOwn, rOff, N6⟩ := capRd N5 (by assumption) (by assumption)
                  have rR : Off5 r5 R := rOff (R, W.listOf (rs.map (fun r => Value.ref r.x)).toArray epr) (by k_mem)
                  have rI : Off5 r5 I := rOff (I, it) (by k_mem)
                  refine' appendH (n := epr) (rest := r5.objs w0.params ++ (I, it) :: (((CL, LCg.lst (cs.map coRef)) :: (K, W.listOf kvs.toArray ep) :: (D, LCg.lst ys) :: (s1.heap.objs.size + 1 + 1 + 1, o3) :: (s1.heap.objs.size + 1 + 1, o2) :: (s1.heap.objs.size + 1, o1) :: (cs.map coObj ++ tl)) ++ rdsObjs w0.params rs)) F5 N6 ?mF_s24 ?sF_s24 ?oF_s24 hrl ?_
                  case mF_s24 => exact List.mem_append_right _ (by k_mem)
                  case sF_s24 => refine app_sub ?_; walk_at "mine sub2"
                  case oF_s24 =>
                    intro p hp
                    rcases List.mem_append.mp hp with hp | hp
                    · exact off5_objs rR p hp
                    · rcases List.mem_cons.mp hp with rfl | hp
                      · exact Ne.symm hne2.1
                      · rcases List.mem_append.mp hp with hp | hp
                        · exact Nat.ne_of_lt (hRl p hp)
                        · exact hRr p hp
                  intro h6 F6 N7
                  k_steps
                  refine' TurnEnd.intro ?tFF_s24 ?tNF_s24 ?tnF_s24 ?tJF_s24
                  case tFF_s24 => assumption
                  case tNF_s24 => exact rd_ledger N7
                  case tJF_s24 =>
                    refine' hJ1 _ _ ⟨rs ++ [r5], _, _, _, ?jaF_s24, rfl, ?jbF_s24, ?jcF_s24, ?jdF_s24⟩
                    case jaF_s24 => rfl
                    case jbF_s24 =>
                      rw [htk]
                      refine RdsOk.snoc ⟨⟨_, hD5, KvOk.init, Nat.le_refl _⟩, by assumption, .inr ⟨fun e => absurd ((fd_pos xv (by decide : (0 : Int) < 2)).2.symm.trans e) (by assumption), _, _, _, rso.symm, rlo.symm⟩⟩ hrs
                    case jcF_s24 =>
                      refine RdsApart.snoc hap rOwn (fun p hp => rOff p ?_) (fun p hp => rOff p ?_)
                      · refine app_right_sub (l := (CL, LCg.lst (cs.map coRef)) :: (K, W.listOf kvs.toArray ep) :: (D, LCg.lst ys) :: (s1.heap.objs.size + 1 + 1 + 1, o3) :: (s1.heap.objs.size + 1 + 1, o2) :: (s1.heap.objs.size + 1, o1) :: (cs.map coObj ++ tl)) ?_ p hp; walk_at "mine sub2"
                      · refine app_left_sub (r := rdsObjs w0.params rs) ?_ p hp; walk_at "mine sub2"
                    case jdF_s24 =>
                      intro p hp
                      rw [rds_snoc] at hp
                      rcases List.mem_append.mp hp with hp | hp
                      · exact hRr p hp
                      · exact off5_objs rR p hp
                  case tnF_s24 =>
                    intro p hp
                    rcases List.mem_cons.mp hp with rfl | hp
                    · exact hne (R, W.listOf (rs.map (fun r => Value.ref r.x)).toArray epr) (.head _)
                    · rcases List.mem_append.mp hp with hp | hp
                      · exact hneB p (List.mem_append_left _ hp)
                      · rw [rds_snoc] at hp
                        rcases List.mem_append.mp hp with hp | hp
                        · exact hneB p (List.mem_append_right _ hp)
                        · exact off5_objs rI p hp
            case done_s24 =>
              rintro h' tk' m' news' F' N' ⟨rs, epr, u3, u4, rfl, rfl, hrs, hap, hRr⟩
              rw [List.take_length] at hrs
              k_steps
              unfold Stop
              refine' hT _ _ _ _ _ _ _ hrs hap hRr ?el_s24 ?eF_s24 ?eN_s24
              case eN_s24 => assumption
              case el_s24 => assumption
              case eF_s24 => assumption
          case S4t_s24 =>
            clear F2 N2 hrng
            w_top off
            rename World => w0
            intro h2 tk RW epr rs u3 u4 hrs hap hRr hWl F2 N2
            have hc3 := cell_ne (l := (CL, LCg.lst (cs.map coRef)) :: (cs.map coObj ++ tl ++ rdsObjs w0.params rs)) N2 (by k_mem) ho3 (by walk_at "mine sub2") (fun p hp => by
              rcases List.mem_cons.mp hp with rfl | hp
              · exact seq_cell
              · exact tail_cell hrs TS p hp)
            have hc3T : ∀ p ∈ cs.map coObj ++ tl ++ rdsObjs w0.params rs, @Ne Nat p.1 (s1.heap.objs.size + 1 + 1 + 1) := fun p hp => hc3 p (.tail _ hp)
            have hc3C := hc3 _ (.head _)
            have hWl2 := allLt_of hWl
            simp only [AllLt] at hWl2
            have hRl2 := allLt_of hRl
            simp only [AllLt] at hRl2
            clear hc3
            obtain ⟨m3, em3⟩ := capM2 F2
            have qs3 : m3 (Str.ofString "script") = some (.ref _) := (congrFun em3.symm _).trans qs2
            have qD3 : m3 (Str.ofString "drawn") = some (.ref D) := (congrFun em3.symm _).trans qD2
            have qK3 : m3 (Str.ofString "known") = some (.ref K) := (congrFun em3.symm _).trans qK2
            have qC3 : m3 (Str.ofString "codes") = some (.ref CL) := (congrFun em3.symm _).trans qC2
            have qR3 : m3 (Str.ofString "readers") = some (.ref R) := (congrFun em3.symm _).trans qR2
            have qW3 : m3 (Str.ofString "row") = some (.ref RW) := (congrFun em3.symm _).trans rfl
            rw [em3] at F2
            clear em3 qs2 qD2 qK2 qC2 qR2
            refine' split_tail (T := ∀ (h2 : Heap) (tk : Nat) (rv : List Value) (re lt : Nat) (o4 : Obj) (last : Int) (v1 : Option Value), IntsAre rv (flat mm Wd zs) → o4.data = .cell (some (.int last lt)) →
                Fr (ghostOf s1.heap [(48, 44), (41, 37)]) s1.heap.objs.size h2 (M6 m3 [(Str.ofString "n", v1)]) →
                News (ghostOf s1.heap [(48, 44), (41, 37)]) s1.heap.objs.size h2 ((RW, W.listOf rv.toArray re) :: (R, W.listOf (rs.map (fun r => Value.ref r.x)).toArray epr) :: (CL, LCg.lst (cs.map coRef)) :: (K, W.listOf kvs.toArray ep) :: (D, LCg.lst ys) :: (s1.heap.objs.size + 1 + 1 + 1, o4) :: (s1.heap.objs.size + 1 + 1, o2) :: (s1.heap.objs.size + 1, o1) :: (cs.map coObj ++ tl ++ rdsObjs w0.params rs)) →
                wpAny (model PySem.Challenge.rw_pg0172_02.row.prog _) _ (eval _ _) _ _ { s1 with heap := h2, toks := tk }) ?S5m_s25 ?S5t_s25
            case S5m_s25 =>
              intro hT
              refine' iterL (J := fun i m' n' => Stop (∃ (rv : List Value) (re : Nat) (v1 : Option Value), m' = M6 m3 [(Str.ofString "n", v1)] ∧ n' = (RW, W.listOf rv.toArray re) :: (R, W.listOf (rs.map (fun r => Value.ref r.x)).toArray epr) :: (CL, LCg.lst (cs.map coRef)) :: (K, W.listOf kvs.toArray ep) :: (D, LCg.lst ys) :: (s1.heap.objs.size + 1 + 1 + 1, o3) :: (s1.heap.objs.size + 1 + 1, o2) :: (s1.heap.objs.size + 1, o1) :: (cs.map coObj ++ tl ++ rdsObjs w0.params rs) ∧
                  IntsAre rv (flat mm Wd (zs.take i)))) (vs := ys) (lo := LCg.lst ys) rfl F2 N2 ?hm_s25 rfl rfl ?h0_s25 ?hJ_s25 ?turn_s25 ?done_s25
              case hm_s25 => k_mem
              case h0_s25 => exact ⟨[], 0, _, M6_self m3 [Str.ofString "n"], rfl, .nil⟩
              case hJ_s25 =>
                rintro i m' n' ⟨rv, re, v1, rfl, rfl, _⟩
                k_mem
              case turn_s25 =>
                rintro I i v m₁ news₁ it h tk hv ⟨rv, re, v1, rfl, rfl, hrv⟩ hit hne F₁ N₁
                replace F₁ := Fr.upd F₁
                refine forGen fun J1 Q1 hJ1 hQ1 => ?_
                obtain ⟨t, hlt, rfl⟩ := ints_at hys hv
                have hxm : zs.getD i 0 ∈ zs := by
                  rw [List.getD_eq_getElem?_getD, List.getElem?_eq_getElem hlt]
                  exact List.getElem_mem hlt
                have hxk := hkz _ hxm
                obtain ⟨hx0, hx1⟩ := hkb _ hxk
                have htk : zs.take (i + 1) = zs.take i ++ [zs.getD i 0] := by
                  rw [List.take_add_one, List.getD_eq_getElem?_getD, List.getElem?_eq_getElem hlt]; rfl
                have hfl := flat_take_len (mm := mm) (W := Wd) (zs := zs) (fun z hz => hkb z (hkz z hz)) hmm0 hW hz7 i
                generalize hxv : List.getD zs i (0 : Int) = xv at *
                have hclen := codeI_len hx0 hx1 hmm0 hW
                obtain ⟨c, hci, hcI⟩ := hcs.get (idx_get hxk)
                have hcr : (cs.map coRef)[kn.idxOf xv]? = some (Value.ref c.1) := by rw [List.getElem?_map, hci]; rfl
                have hil : kn.idxOf xv < kn.length := List.idxOf_lt_length_iff.mpr hxk
                have hcm : (c.1, W.listOf c.2.1.toArray c.2.2) ∈ cs.map coObj := List.mem_map.mpr ⟨c, List.mem_of_getElem? hci, rfl⟩
                have hne2 := neAll_of hne
                simp only [NeAll] at hne2
                k_steps
                unfold Stop
                rename News _ _ _ _ => N5
                rename Fr _ _ _ (M6 _ _) => F5
                refine' extendH (n := re) (n2 := c.2.2) (vs := rv) (ws := c.2.1) (rest := (I, it) :: (R, W.listOf (rs.map (fun r => Value.ref r.x)).toArray epr) :: (CL, LCg.lst (cs.map coRef)) :: (K, W.listOf kvs.toArray ep) :: (D, LCg.lst ys) :: (s1.heap.objs.size + 1 + 1 + 1, o3) :: (s1.heap.objs.size + 1 + 1, o2) :: (s1.heap.objs.size + 1, o1) :: (cs.map coObj ++ tl ++ rdsObjs w0.params rs)) F5 N5 ?xm_s25 ?xb_s25 ?xs_s25 ?xo_s25 hrv hcI ?xz_s25 ?_
                case xm_s25 => k_mem
                case xb_s25 =>
                  simp only [List.mem_cons, List.mem_append]
                  simp only [hcm, true_or, or_true]
                case xs_s25 => walk_at "mine sub2"
                case xo_s25 =>
                  intro p hp
                  rcases List.mem_cons.mp hp with rfl | hp
                  · exact Ne.symm hne2.1
                  · exact Nat.ne_of_lt (hWl p hp)
                case xz_s25 => omega
                intro h6 re' F6 N6 hI6
                k_steps
                refine' TurnEnd.intro ?tF_s25 ?tN_s25 ?tn_s25 ?tJ_s25
                case tF_s25 => assumption
                case tJ_s25 =>
                  refine' hJ1 _ _ ⟨rv ++ c.2.1, re', _, ?ja_s25, rfl, ?jb_s25⟩
                  case ja_s25 => rfl
                  case jb_s25 =>
                    rw [htk, flat_snoc]
                    exact hI6
                case tN_s25 => exact News.sub N6 swap2
                case tn_s25 => exact ne_swap hne
              case done_s25 =>
                rintro h' tk' m' news' F' N' ⟨rv, re, v1, rfl, rfl, hrv⟩
                have hyl := hys.length
                rw [hyl, List.take_length] at hrv
                k_steps
                · unfold Stop
                  refine' hT _ _ _ _ _ _ _ _ hrv ?eoP_s25 ?eFP_s25 ?eNP_s25
                  case eNP_s25 => (rename News _ _ _ _ => N9P; exact News.sub N9P (by walk_at "mine sub2"))
                  case eoP_s25 => assumption
                  case eFP_s25 => assumption
                · unfold Stop
                  refine' hT _ _ _ _ _ _ _ _ hrv ?eoQ_s25 ?eFQ_s25 ?eNQ_s25
                  case eNQ_s25 => (rename News _ _ _ _ => N9Q; exact News.sub N9Q (by walk_at "mine sub2"))
                  case eoQ_s25 => assumption
                  case eFQ_s25 => assumption
            case S5t_s25 =>
              w_top off
              intro h2 tk rv re lt o4 last v1 hrv ho4 F2 N2
              clear hc3T hc3C
              obtain ⟨⟨p37, h37⟩, ⟨p44, h44⟩⟩ := TS.mems
              refine' split_tail (T := ∀ (h2 : Heap) (tk RD ta : Nat) (rv : List Value) (re : Nat) (b6 : List Int) (v1 : Option Value), IntsAre rv (flat mm Wd zs ++ b6) → Bits b6 → b6.length = 6 →
                  RdsApart w0.params rs ((RW, W.listOf rv.toArray re) :: (R, W.listOf (rs.map (fun r => Value.ref r.x)).toArray epr) :: (K, W.listOf kvs.toArray ep) :: (D, LCg.lst ys) :: (s1.heap.objs.size + 1, o1) :: (44, tabObj p44) :: (37, tabObj p37) :: []) →
                  (∀ p ∈ (RW, W.listOf rv.toArray re) :: (R, W.listOf (rs.map (fun r => Value.ref r.x)).toArray epr) :: (K, W.listOf kvs.toArray ep) :: (D, LCg.lst ys) :: (s1.heap.objs.size + 1, o1) :: (44, tabObj p44) :: (37, tabObj p37) :: rdsObjs w0.params rs, p.1 < RD) →
                  Fr (ghostOf s1.heap [(48, 44), (41, 37)]) s1.heap.objs.size h2 (M6 m3 [(Str.ofString "n", v1), (Str.ofString "at", some (.int 0 ta)), (Str.ofString "read", some (.ref RD))]) →
                  News (ghostOf s1.heap [(48, 44), (41, 37)]) s1.heap.objs.size h2 ((RD, W.listOf #[] 0) :: (RW, W.listOf rv.toArray re) :: (R, W.listOf (rs.map (fun r => Value.ref r.x)).toArray epr) :: (K, W.listOf kvs.toArray ep) :: (D, LCg.lst ys) :: (s1.heap.objs.size + 1, o1) :: (44, tabObj p44) :: (37, tabObj p37) :: rdsObjs w0.params rs) →
                  wpAny (model PySem.Challenge.rw_pg0172_02.row.prog _) _ (exec _ _) _ _ { s1 with heap := h2, toks := tk }) ?S6m_s26 ?S6t_s26
              case S6m_s26 =>
                intro hT
                have hfl := flat_take_len (mm := mm) (W := Wd) (zs := zs) (fun z hz => hkb z (hkz z hz)) hmm0 hW hz7 zs.length
                rw [List.take_length] at hfl
                ((try unfold Stop); k_dflt (refine LCg.ListComp_U (F₀ := by k_asm) (by with_unfolding_all rfl) (by decide) (by rfl) (by decide) (by rfl) ?_))
                k_steps
                unfold Stop
                rename News _ _ _ _ => N3
                rename Fr _ _ _ _ => F3
                rename IsRange _ _ _ _ _ _ _ _ => hR3
                obtain ⟨n3, en3⟩ := capN2 N3
                refine' LCg.CompSrc.range (n := 6) rfl F3 N3 hR3 (by decide) (by rfl) (by rw [sizeLine_eq]; decide) ?_
                intro g
                refine compInv (J := fun j yc nw => Stop (nw = n3 ∧ ∃ bs, IntsAre yc bs ∧ bs.length = j ∧ Bits bs)) ?tu_s26 ?fi_s26 _ 0 [] _ (Nat.zero_add _) ⟨en3, [], .nil, rfl, fun z hz => nomatch hz⟩
                case tu_s26 =>
                  rintro j yc nw v I2 oI C oC Dc m₂ h4 tk4 E' hj ⟨rfl, bs, hyc, hbl, hbb⟩ hv hC hx F4 N4 off ne
                  subst en3
                  obtain ⟨t5, rfl⟩ := hv
                  k_steps
                  refine ⟨rfl, bs ++ [_], IntsAre.append hyc (.cons _ _ .nil), by simp [hbl], ?_⟩
                  intro z hz
                  rcases List.mem_append.mp hz with hz | hz
                  · exact hbb z hz
                  · rw [List.mem_singleton.mp hz]
                    exact fmod2_bit _
                case fi_s26 =>
                  rintro yc nw ⟨rfl, bs, hyc, hbl, hbb⟩
                  subst en3
                  k_steps
                  unfold Stop
                  rename News _ _ _ _ => N5
                  rename Fr _ _ _ (M6 _ _) => F5
                  refine' extendH (n := re) (n2 := yc.length) (vs := rv) (ws := yc) (rest := (R, W.listOf (rs.map (fun r => Value.ref r.x)).toArray epr) :: (K, W.listOf kvs.toArray ep) :: (D, LCg.lst ys) :: (s1.heap.objs.size + 1, o1) :: (44, tabObj p44) :: (37, tabObj p37) :: rdsObjs w0.params rs) F5 N5 ?xm_s26 ?xb_s26 ?xs_s26 ?xo_s26 hrv hyc ?xz_s26 ?_
                  case xm_s26 => k_mem
                  case xb_s26 => k_mem
                  case xs_s26 => exact fun p hp => .tail _ (.tail _ (main_sub h44 h37 p hp))
                  case xo_s26 => exact fun p hp => Nat.ne_of_lt (hWl p (main_sub h44 h37 p hp))
                  case xz_s26 => omega
                  intro h6 re' F6 N6 hI6
                  k_steps
                  unfold Stop
                  refine' hT _ _ _ _ _ _ bs _ hI6 hbb hbl ?ra_s26 ?rl_s26 ?rF_s26 ?rN_s26
                  case rN_s26 => assumption
                  case rl_s26 => assumption
                  case rF_s26 => assumption
                  case ra_s26 =>
                    refine RdsApart.cons (RdsApart.cons (hap.sub (ap_sub h44 h37)) hRr) fun p hp => Nat.ne_of_lt (hWl p ?_)
                    simp only [List.mem_cons, List.mem_append]
                    exact .inr (.inr (.inr (.inr (.inr (.inr (.inr (.inr hp)))))))
              case S6t_s26 =>
                w_top off
                intro h2 tk RD ta rv re b6 v1 hrv hb6 hl6 hap hRD F2 N2
                obtain ⟨m4, em4⟩ := capM2 F2
                have qD4 : m4 (Str.ofString "drawn") = some (.ref D) := (congrFun em4.symm _).trans qD3
                have qK4 : m4 (Str.ofString "known") = some (.ref K) := (congrFun em4.symm _).trans qK3
                have qR4 : m4 (Str.ofString "readers") = some (.ref R) := (congrFun em4.symm _).trans qR3
                have qW4 : m4 (Str.ofString "row") = some (.ref RW) := (congrFun em4.symm _).trans qW3
                have qA4 : m4 (Str.ofString "at") = some (.int 0 ta) := (congrFun em4.symm _).trans rfl
                have qE4 : m4 (Str.ofString "read") = some (.ref RD) := (congrFun em4.symm _).trans rfl
                rw [em4] at F2
                clear em4 qs3 qD3 qK3 qC3 qR3 qW3
                obtain ⟨row, hrow⟩ : ∃ row, row = flat mm Wd zs ++ b6 := ⟨_, rfl⟩
                have hbr : Bits row := by
                  intro x hx
                  rw [hrow] at hx
                  rcases List.mem_append.mp hx with hx | hx
                  · exact flat_bits _ _ _ x hx
                  · exact hb6 x hx
                have hrl : row.length ≤ 202 := by
                  have hfl := flat_take_len (mm := mm) (W := Wd) (zs := zs) (fun z hz => hkb z (hkz z hz)) hmm0 hW hz7 zs.length
                  rw [List.take_length] at hfl
                  rw [hrow, List.length_append]; omega
                rw [← hrow] at hrv
                have hz0 : ∀ z ∈ zs, 0 ≤ z := fun z hz => (hzb z hz).1
                have hR0 := hrs.length
                obtain ⟨rvs, hrvs⟩ : ∃ rvs, rs.map (fun r => Value.ref r.x) = rvs := ⟨_, rfl⟩
                rw [hrvs] at N2 hRD hap
                have hRDn : ∀ p ∈ rdsObjs w0.params rs, @Ne Nat p.1 RD := fun p hp => Nat.ne_of_lt (hRD p (.tail _ (.tail _ (.tail _ (.tail _ (.tail _ (.tail _ (.tail _ hp))))))))
                refine' While_inv2 (fun k m' n' => ∃ (at_ ta re' : Nat) (dec : List Int) (rdv : List Value) (rs' : List Rd) (v1 v2 v3 v4 v5 : Option Value), at_ ≤ row.length ∧ k = row.length - at_ ∧
                    m' = M6 m4 [(Str.ofString "at", some (.int (at_ : Int) ta)), (Str.ofString "found", v1), (Str.ofString "words", v2), (Str.ofString "k", v3), (Str.ofString "due", v4), (Str.ofString "told", v5)] ∧
                    n' = (RD, W.listOf rdv.toArray re') :: (RW, W.listOf rv.toArray re) :: (R, W.listOf rvs.toArray epr) :: (K, W.listOf kvs.toArray ep) :: (D, LCg.lst ys) :: (s1.heap.objs.size + 1, o1) :: (44, tabObj p44) :: (37, tabObj p37) :: rdsObjs w0.params rs' ∧
                    IntsAre rdv dec ∧ dec.length ≤ at_ ∧ Dec mm Wd zs at_ dec ∧ RdsOk PySem.Challenge.rw_pg0172_02.row.prog w0 (1 + at_) (codeI mm Wd) rs' kn ∧
                    RdsApart w0.params rs' ((RW, W.listOf rv.toArray re) :: (R, W.listOf rvs.toArray epr) :: (K, W.listOf kvs.toArray ep) :: (D, LCg.lst ys) :: (s1.heap.objs.size + 1, o1) :: (44, tabObj p44) :: (37, tabObj p37) :: []) ∧
                    (∀ p ∈ rdsObjs w0.params rs', @Ne Nat p.1 RD) ∧ rs'.map (fun r => Value.ref r.x) = rvs) (n₀ := row.length) F2 N2 ?h0_s27 ?turn_s27
                case h0_s27 =>
                  refine' ⟨0, ta, 0, [], [], rs, _, _, _, _, _, Nat.zero_le _, rfl, ?ha_s27, rfl, .nil, Nat.le_refl _, Dec.init, hrs, hap, hRDn, hrvs⟩
                  case ha_s27 =>
                    rw [show (some (Value.int ((0 : Nat) : Int) ta)) = m4 (Str.ofString "at") from qA4.symm]
                    exact M6_self m4 [Str.ofString "at", Str.ofString "found", Str.ofString "words", Str.ofString "k", Str.ofString "due", Str.ofString "told"]
                case turn_s27 =>
                  rintro k m₁ news₁ h₁ tk₁ F₁ N₁ ⟨at_, ta, re', dec, rdv, rs', v1, v2, v3, v4, v5, hat, rfl, rfl, rfl, hrd, hdl, hdec, hrs', hap', hRn, hrv'⟩
                  clear qA4
                  refine whGen fun J1 Q2 hJ1 hQ2 => ?_
                  refine' split_tail (T := ∀ (h2 : Heap) (tk t u v rg WL TA : Nat) (fv : Value) (TO : Obj) (wys : List Value), FrontV fv TA TO (frontI mm Wd (row.drop at_)) → StrsAre wys (((row.drop at_).take 32).map wd) → IsRange h2 rg 0 (kn.length : Int) 1 t u v → RD < TA →
                      RdsApart w0.params rs' ((WL, LCg.lst wys) :: (TA, TO) :: (RD, W.listOf rdv.toArray re') :: (RW, W.listOf rv.toArray re) :: (R, W.listOf rvs.toArray epr) :: (K, W.listOf kvs.toArray ep) :: (D, LCg.lst ys) :: (s1.heap.objs.size + 1, o1) :: (44, tabObj p44) :: (37, tabObj p37) :: []) →
                      Fr (ghostOf s1.heap [(48, 44), (41, 37)]) s1.heap.objs.size h2 (M6 m4 [(Str.ofString "at", some (.int (at_ : Int) ta)), (Str.ofString "found", some fv), (Str.ofString "words", some (.ref WL)), (Str.ofString "k", v3), (Str.ofString "due", v4), (Str.ofString "told", v5)]) →
                      News (ghostOf s1.heap [(48, 44), (41, 37)]) s1.heap.objs.size h2 ((WL, LCg.lst wys) :: (TA, TO) :: (RD, W.listOf rdv.toArray re') :: (RW, W.listOf rv.toArray re) :: (R, W.listOf rvs.toArray epr) :: (K, W.listOf kvs.toArray ep) :: (D, LCg.lst ys) :: (s1.heap.objs.size + 1, o1) :: (44, tabObj p44) :: (37, tabObj p37) :: rdsObjs w0.params rs') →
                      wpAny (model PySem.Challenge.rw_pg0172_02.row.prog _) _ (pyIter (.ref rg)) _ _ { s1 with heap := h2, toks := tk }) ?S7m_s27 ?S7t_s27
                  case S7m_s27 =>
                    intro hT
                    have hbd : Bits (row.drop ((at_ : Int)).toNat) := hbr.sub fun x hx => List.mem_of_mem_drop hx
                    have hld : (row.drop ((at_ : Int)).toNat).length ≤ 1000 := by rw [List.length_drop]; omega
                    have hb32 : Bits ((row.drop at_).take 32) := hbr.sub fun x hx => List.mem_of_mem_drop (List.mem_of_mem_take hx)
                    have hl32 : ((row.drop at_).take 32).length ≤ 32 := by rw [List.length_take]; omega
                    k_steps
                    ((try unfold Stop); k_dflt (refine' kmk_slice_ints ?FX8_s27 ?NX8_s27 ?lX8_s27 ?pX8_s27 ?qX8_s27 ?iX8_s27 ?mX8_s27 ?cX8_s27 ?_ ?sX8_s27 ?tX8_s27 ?zX8_s27; (case FX8_s27 => k_asm); (case NX8_s27 => k_asm); (case lX8_s27 => kmk_list); (case pX8_s27 => kmk_part); (case qX8_s27 => kmk_part); (case iX8_s27 => assumption); (case mX8_s27 => first | (with_reducible refine' kmk_run ?maX8_s27 ?mbX8_s27 ?mcX8_s27; (case maX8_s27 => assumption); (case mbX8_s27 => omega); (case mcX8_s27 => omega)) | (with_reducible refine' kmk_from ?mdX8_s27 ?meX8_s27; (case mdX8_s27 => assumption); (case meX8_s27 => omega)) | (with_reducible refine' kmk_upto ?mfX8_s27 ?mgX8_s27; (case mfX8_s27 => assumption); (case mgX8_s27 => omega))); (case cX8_s27 => exact rfl); (case sX8_s27 => with_unfolding_all rfl); (case tX8_s27 => kmk_pure); (case zX8_s27 => exact vsz (by assumption) (by omega))); intro D' ws' h' F' N' l1 hI' hC' hl'; (try k_lt l1); (try k_sweep))
                    k_steps
                    unfold Stop
                    refine' c_front2 ?fB_s27 ?fF_s27 ?fX_s27 ?fN_s27 ?fT_s27 ?fh_s27 ?fl_s27 ?fd_s27 ?fu_s27 ?fI_s27 ?fb_s27 ?fe_s27 _ _ ?fm0_s27 ?fm1_s27 _ ?fW_s27 ?fW1_s27 ?fW2_s27 ?_
                    case fN_s27 => k_asm
                    case fB_s27 => k_asm
                    case fF_s27 => k_asm
                    case fX_s27 => k_asm
                    case fT_s27 => k_asm
                    case fh_s27 => first | rfl | assumption
                    case fl_s27 => assumption
                    case fd_s27 => ktr_room
                    case fu_s27 => ktr_units
                    case fI_s27 => assumption
                    case fb_s27 => assumption
                    case fe_s27 => assumption
                    case fm0_s27 => first | assumption | omega
                    case fm1_s27 => first | assumption | omega
                    case fW1_s27 => assumption
                    case fW2_s27 => assumption
                    case fW_s27 => omega
                    intro h' tk' fv' TA' TO' F' N' l1 hf'
                    k_steps
                    rename FrontV _ _ _ _ => hfv
                    rename (∀ p : Addr × Obj, p ∈ _ → p.1 < _) => lTA
                    rw [Int.toNat_natCast] at hfv
                    obtain ⟨fv, TA, TO, rfl, rfl, rfl, hfv⟩ := capFV hfv
                    have hapT := RdsApart.cons (q := (TA, TO)) (RdsApart.cons (q := (RD, W.listOf rdv.toArray re')) hap' hRn) fun p hp => Nat.ne_of_lt (lTA p (.tail _ (.tail _ (.tail _ (.tail _ (.tail _ (.tail _ (.tail _ (.tail _ hp)))))))))
                    have hRT := lTA _ (.head _)
                    ((try unfold Stop); k_dflt (refine LCg.Assign_ListComp_U (F₀ := by k_asm) (by rfl) (by with_unfolding_all rfl) (by with_unfolding_all rfl) (by decide) (by rfl) (by decide) (by rfl) (by rfl) (by rfl) ?_))
                    k_steps
                    ((try unfold Stop); k_dflt (refine' kmk_slice_ints ?FX9_s27 ?NX9_s27 ?lX9_s27 ?pX9_s27 ?qX9_s27 ?iX9_s27 ?mX9_s27 ?cX9_s27 ?_ ?sX9_s27 ?tX9_s27 ?zX9_s27; (case FX9_s27 => k_asm); (case NX9_s27 => k_asm); (case lX9_s27 => kmk_list); (case pX9_s27 => kmk_part); (case qX9_s27 => kmk_part); (case iX9_s27 => assumption); (case mX9_s27 => first | (with_reducible refine' kmk_run ?maX9_s27 ?mbX9_s27 ?mcX9_s27; (case maX9_s27 => assumption); (case mbX9_s27 => omega); (case mcX9_s27 => omega)) | (with_reducible refine' kmk_from ?mdX9_s27 ?meX9_s27; (case mdX9_s27 => assumption); (case meX9_s27 => omega)) | (with_reducible refine' kmk_upto ?mfX9_s27 ?mgX9_s27; (case mfX9_s27 => assumption); (case mgX9_s27 => omega))); (case cX9_s27 => exact rfl); (case sX9_s27 => with_unfolding_all rfl); (case tX9_s27 => kmk_pure); (case zX9_s27 => exact vsz (by assumption) (by omega))); intro D' ws' h' F' N' l1 hI' hC' hl'; (try k_lt l1); (try k_sweep))
                    k_steps
                    unfold Stop
                    rename News _ _ _ _ => N3
                    rename Fr _ _ _ _ => F3
                    rename IntsAre _ _ => I3
                    rw [run32] at I3
                    obtain ⟨l32, e32⟩ : ∃ l, l = (row.drop at_).take 32 := ⟨_, rfl⟩
                    rw [← e32] at I3 hb32 hl32 hT
                    obtain ⟨n3, en3⟩ := capN2 N3
                    refine' LCg.CompSrc.ledger (k := 0) rfl F3 N3 ?hm_s27 ?hsz_s27 ?_
                    case hm_s27 => k_mem
                    case hsz_s27 => exact vsz I3 (by omega)
                    intro g
                    refine compInv (J := fun j yc nw => Stop (nw = n3 ∧ StrsAre yc ((l32.take j).map wd))) ?tu_s27 ?fi_s27 _ 0 [] _ (Nat.zero_add _) ⟨en3, .nil⟩
                    case tu_s27 =>
                      rintro j yc nw v I2 oI C oC Dc m₂ h4 tk4 E' hj ⟨rfl, hyc⟩ hv hC hx F4 N4 off ne
                      subst en3
                      obtain ⟨t5, hlt5, rfl⟩ := ints_at I3 (by simpa using hv)
                      have hjt : l32.take (j + 1) = l32.take j ++ [l32.getD j 0] := by rw [List.take_add_one, List.getD_eq_getElem?_getD, List.getElem?_eq_getElem hlt5]; rfl
                      have hb2 := bits_getD hb32 j
                      generalize hyv : List.getD l32 j (0 : Int) = yv at *
                      k_steps
                      refine ⟨rfl, ?_⟩
                      rw [hjt, List.map_append]
                      exact strsAre_append hyc (.cons _ _ .nil)
                    case fi_s27 =>
                      rintro yc nw ⟨rfl, hyc⟩
                      subst en3
                      rw [List.size_toArray, I3.length, List.take_length] at hyc
                      unfold LCg.FinA
                      intro WL h5 tk5 F5 N5 o1
                      replace F5 := Fr.upd F5
                      have o2 := off1_mem o1
                      k_steps
                      unfold Stop
                      refine' hT _ _ _ _ _ _ WL TA fv TO yc hfv hyc ?gR_s27 hRT ?gA_s27 ?gF_s27 ?gN_s27
                      case gR_s27 => assumption
                      case gA_s27 => exact RdsApart.cons hapT fun p hp => o2 p (.tail _ (.tail _ (.tail _ (.tail _ (.tail _ (.tail _ (.tail _ (.tail _ (.tail _ (.tail _ hp))))))))))
                      case gF_s27 => assumption
                      case gN_s27 => (rename News _ _ _ _ => N9; exact News.sub N9 (by walk_at "mine sub2"))
                  case S7t_s27 =>
                    w_top off
                    intro h2 tk t u v rg WL TA fv TO wys hfv hwy hrg hRT hapW F2 N2
                    have hb32 : Bits ((row.drop at_).take 32) := hbr.sub fun x hx => List.mem_of_mem_drop (List.mem_of_mem_take hx)
                    have hl32 : ((row.drop at_).take 32).length ≤ 32 := by rw [List.length_take]; omega
                    have hbd : Bits (row.drop at_) := hbr.sub fun x hx => List.mem_of_mem_drop hx
                    refine' iterRng (n := kn.length) (J := fun i m' n' => Stop (∃ (rsA rsB : List Rd) (u5 u6 u7 : Option Value), m' = M6 m4 [(Str.ofString "at", some (.int (at_ : Int) ta)), (Str.ofString "found", some fv), (Str.ofString "words", some (.ref WL)), (Str.ofString "k", u5), (Str.ofString "due", u6), (Str.ofString "told", u7)] ∧
                        n' = (WL, LCg.lst wys) :: (TA, TO) :: (RD, W.listOf rdv.toArray re') :: (RW, W.listOf rv.toArray re) :: (R, W.listOf rvs.toArray epr) :: (K, W.listOf kvs.toArray ep) :: (D, LCg.lst ys) :: (s1.heap.objs.size + 1, o1) :: (44, tabObj p44) :: (37, tabObj p37) :: rdsObjs w0.params (rsA ++ rsB) ∧
                        RdsOk PySem.Challenge.rw_pg0172_02.row.prog w0 (1 + at_ + 1) (codeI mm Wd) rsA (kn.take i) ∧ RdsOk PySem.Challenge.rw_pg0172_02.row.prog w0 (1 + at_) (codeI mm Wd) rsB (kn.drop i) ∧
                        RdsApart w0.params (rsA ++ rsB) ((WL, LCg.lst wys) :: (TA, TO) :: (RD, W.listOf rdv.toArray re') :: (RW, W.listOf rv.toArray re) :: (R, W.listOf rvs.toArray epr) :: (K, W.listOf kvs.toArray ep) :: (D, LCg.lst ys) :: (s1.heap.objs.size + 1, o1) :: (44, tabObj p44) :: (37, tabObj p37) :: []) ∧ (∀ p ∈ rdsObjs w0.params (rsA ++ rsB), @Ne Nat p.1 RD) ∧ (rsA ++ rsB).map (fun r => Value.ref r.x) = rvs)) rfl F2 N2 hrg (rng_small (by omega)) (rng_size _) ?h0_s28 ?turn_s28 ?done_s28
                    case h0_s28 => exact ⟨[], rs', _, _, _, rfl, rfl, trivial, hrs', hapW, hRn, hrv'⟩
                    case turn_s28 =>
                      rintro I i t m₁ news₁ it h tk3 hi ⟨rsA, rsB, u5, u6, u7, rfl, rfl, hA, hB, hap2, hR2, hrv2⟩ hne F₁ N₁
                      have hiK : kn[i]? = some (kn.getD i 0) := by rw [List.getD_eq_getElem?_getD, List.getElem?_eq_getElem hi]; rfl
                      have hxm : kn.getD i 0 ∈ kn := List.mem_of_getElem? hiK
                      obtain ⟨hx0, hx1⟩ := hkb _ hxm
                      have htk : kn.take (i + 1) = kn.take i ++ [kn.getD i 0] := by rw [List.take_add_one, hiK]; rfl
                      have hdk : kn.drop i = kn.getD i 0 :: kn.drop (i + 1) := by
                        rw [List.drop_eq_getElem_cons hi, List.getD_eq_getElem?_getD, List.getElem?_eq_getElem hi]; rfl
                      obtain ⟨xv, hxv⟩ : ∃ xv, kn.getD i 0 = xv := ⟨_, rfl⟩
                      rw [hxv] at hiK hxm hx0 hx1 htk hdk
                      rw [hdk] at hB
                      obtain ⟨r, rsB', rfl, hr, hB'⟩ := hB.uncons
                      obtain ⟨hOwn, hMid⟩ := hap2.mid
                      obtain ⟨t9, hkvi⟩ := hkv.get i xv hiK
                      have hclen := codeI_len hx0 hx1 hmm0 hW
                      have hAl := hA.length
                      rw [List.length_take, Nat.min_eq_left (Nat.le_of_lt hi)] at hAl
                      have hrx : rvs[i]? = some (Value.ref r.x) := by
                        rw [← hrv2, List.getElem?_map, List.getElem?_append_right (by omega), hAl, Nat.sub_self]; rfl
                      replace N₁ : News (ghostOf s1.heap [(48, 44), (41, 37)]) s1.heap.objs.size h ((r.ig, r.io) :: (r.x, instObj 121 r.dx) :: (r.dx, rdDict w0.params r.t1 r.t2 r.t3 r.S r.l r.ig r.n) :: (r.S, r.so) :: (r.l, r.lo) :: (I, it) :: (WL, LCg.lst wys) :: (TA, TO) :: (RD, W.listOf rdv.toArray re') :: (RW, W.listOf rv.toArray re) :: (R, W.listOf rvs.toArray epr) :: (K, W.listOf kvs.toArray ep) :: (D, LCg.lst ys) :: (s1.heap.objs.size + 1, o1) :: (44, tabObj p44) :: (37, tabObj p37) :: (rdsObjs w0.params rsA ++ rdsObjs w0.params rsB')) := News.sub N₁ (rds_mid (base := (I, it) :: (WL, LCg.lst wys) :: (TA, TO) :: (RD, W.listOf rdv.toArray re') :: (RW, W.listOf rv.toArray re) :: (R, W.listOf rvs.toArray epr) :: (K, W.listOf kvs.toArray ep) :: (D, LCg.lst ys) :: (s1.heap.objs.size + 1, o1) :: (44, tabObj p44) :: (37, tabObj p37) :: []))
                      replace F₁ : Fr (ghostOf s1.heap [(48, 44), (41, 37)]) s1.heap.objs.size h _ := Fr.upd F₁
                      refine forGen fun J3 Q3 hJ3 hQ3 => ?_
                      refine' split_tail (T := ∀ (h5 : Heap) (tk5 : Nat) (d : Int) (td : Nat), d = b01 (decide (codeI mm Wd xv <+: (row.drop at_).take 32)) →
                          Fr (ghostOf s1.heap [(48, 44), (41, 37)]) s1.heap.objs.size h5 (M6 m4 [(Str.ofString "at", some (.int (at_ : Int) ta)), (Str.ofString "found", some fv), (Str.ofString "words", some (.ref WL)), (Str.ofString "k", some (.int (0 + (i : Int)) t)), (Str.ofString "due", some (.int d td)), (Str.ofString "told", u7)]) →
                          News (ghostOf s1.heap [(48, 44), (41, 37)]) s1.heap.objs.size h5 ((r.ig, r.io) :: (r.x, instObj 121 r.dx) :: (r.dx, rdDict w0.params r.t1 r.t2 r.t3 r.S r.l r.ig r.n) :: (r.S, r.so) :: (r.l, r.lo) :: (I, it) :: (WL, LCg.lst wys) :: (TA, TO) :: (RD, W.listOf rdv.toArray re') :: (RW, W.listOf rv.toArray re) :: (R, W.listOf rvs.toArray epr) :: (K, W.listOf kvs.toArray ep) :: (D, LCg.lst ys) :: (s1.heap.objs.size + 1, o1) :: (44, tabObj p44) :: (37, tabObj p37) :: (rdsObjs w0.params rsA ++ rdsObjs w0.params rsB')) →
                          wpAny (model PySem.Challenge.rw_pg0172_02.row.prog _) _ (exec _ _) _ _ { s1 with heap := h5, toks := tk5 }) ?S8m_s28 ?S8t_s28
                      case S8m_s28 =>
                        intro hT
                        have hst := stopTold
                        rcases hfv.split with ⟨hfv2, hfr⟩ | ⟨x, k, tx, tkk, hfv2, hTO, hfr⟩
                        · have F8 := F₁
                          rw [hfv2] at F8
                          k_steps
                          unfold Stop
                          refine' hT _ _ _ _ ?nDA_s28 ?nFA_s28 ?nNA_s28
                          case nNA_s28 => assumption
                          case nFA_s28 => (rw [hfv2]; assumption)
                          case nDA_s28 => exact due_none hbd hx0 hmm0 hW1 hW2 (by omega) hfr
                        · have F8 := F₁
                          rw [hfv2] at F8
                          have N8 := N₁
                          rw [hTO] at N8
                          k_steps
                          · unfold Stop
                            refine' hT _ _ _ _ ?nDB_s28 ?nFB_s28 ?nNB_s28
                            case nNB_s28 => (rw [hTO]; assumption)
                            case nFB_s28 => (rw [hfv2]; assumption)
                            case nDB_s28 => exact due_eq hbd hx0 hmm0 hW1 hW2 (by omega) (‹x = xv› ▸ hfr)
                          · unfold Stop
                            refine' hT _ _ _ _ ?nDC_s28 ?nFC_s28 ?nNC_s28
                            case nNC_s28 => (rw [hTO]; assumption)
                            case nFC_s28 => (rw [hfv2]; assumption)
                            case nDC_s28 => exact due_ne hbd hx0 hmm0 hW1 hW2 (by omega) hfr (by assumption)
                      case S8t_s28 =>
                        intro h5 tk5 d td hd F5 N5
                        have d0 : ((((row.drop at_).take 32).map wd).map (·.length)).sum + (((row.drop at_).take 32).map wd).length * 64 ≤ 16777216 := by
                          have := wds_len hb32.mk
                          rw [List.length_map]; omega
                        have j1 : (PySem.Txt.join (Str.ofString ".") (((row.drop at_).take 32).map wd)).length ≤ 100000 := by have := join_len hb32.mk lenDot; omega
                        have j2 : (PySem.Txt.join (Str.ofString "/") (((row.drop at_).take 32).map wd)).length ≤ 100000 := by have := join_len hb32.mk lenSl; omega
                        k_steps
                        unfold Stop
                        rename News _ _ _ _ => N6
                        rename Fr _ _ _ (M6 _ _) => F6
                        refine' c_names (r := r) (code := codeI mm Wd xv) (l := (row.drop at_).take 32) (n := xv) (K := 1 + at_) (news := (I, it) :: (WL, LCg.lst wys) :: (TA, TO) :: (RD, W.listOf rdv.toArray re') :: (RW, W.listOf rv.toArray re) :: (R, W.listOf rvs.toArray epr) :: (K, W.listOf kvs.toArray ep) :: (D, LCg.lst ys) :: (s1.heap.objs.size + 1, o1) :: (44, tabObj p44) :: (37, tabObj p37) :: (rdsObjs w0.params rsA ++ rdsObjs w0.params rsB')) ?cB_s28 ?cF_s28 ?cX_s28 ?cN_s28 ?cT_s28 ?chk_s28 hr ?cK_s28 hOwn ?chap_s28 (codeI_ne mm Wd xv) (codeI_bits mm Wd xv).mk ?cl_s28 hb32.mk ?cl2_s28 ?chd_s28 ?chu_s28 ?_
                        case cN_s28 => exact N6
                        case cF_s28 => exact F6
                        case cB_s28 => k_asm
                        case cX_s28 => k_asm
                        case cT_s28 => k_asm
                        case chk_s28 => rfl
                        case cK_s28 => omega
                        case chap_s28 =>
                          intro p hp
                          rcases List.mem_cons.mp hp with h | hp
                          · rw [h]
                            exact Ne.symm (hne (r.ig, r.io) (.tail _ (.tail _ (.tail _ (.tail _ (.tail _ (.tail _ (.tail _ (.tail _ (.tail _ (.tail _ (List.mem_flatMap.mpr ⟨r, List.mem_append_right _ (.head _), .head _⟩))))))))))))
                          · exact hMid p hp
                        case cl_s28 => omega
                        case cl2_s28 => omega
                        case chd_s28 => ktr_room
                        case chu_s28 => ktr_units
                        intro h6 tk6 t6 io6 F7 N7 hok7
                        subst hd
                        k_steps
                        · exfalso; omega
                        · have eAB : (rsA ++ [({ r with io := io6 } : Rd)]) ++ rsB' = rsA ++ { r with io := io6 } :: rsB' := by simp
                          refine' TurnEnd.intro ?tF_s28 ?tN_s28 ?tn_s28 ?tJ_s28
                          case tF_s28 => assumption
                          case tJ_s28 =>
                            refine' hJ3 _ _ ⟨rsA ++ [{ r with io := io6 }], rsB', _, _, _, ?ja_s28, rfl, ?jb_s28, hB', ?jc_s28, ?jd_s28, ?je_s28⟩
                            case ja_s28 => rfl
                            case jb_s28 =>
                              rw [htk]
                              exact RdsOk.snoc hok7 hA
                            case jc_s28 => rw [eAB]; exact hap2.put
                            case jd_s28 => rw [eAB]; exact rds_put_ne hR2
                            case je_s28 => rw [eAB, ← hrv2]; simp
                          case tN_s28 =>
                            rw [eAB]
                            rename News _ _ _ _ => N9
                            exact News.sub N9 (rds_mid2 (base := (I, it) :: (WL, LCg.lst wys) :: (TA, TO) :: (RD, W.listOf rdv.toArray re') :: (RW, W.listOf rv.toArray re) :: (R, W.listOf rvs.toArray epr) :: (K, W.listOf kvs.toArray ep) :: (D, LCg.lst ys) :: (s1.heap.objs.size + 1, o1) :: (44, tabObj p44) :: (37, tabObj p37) :: []))
                          case tn_s28 =>
                            rw [eAB]
                            intro p hp
                            rcases List.mem_append.mp (show p ∈ ((WL, LCg.lst wys) :: (TA, TO) :: (RD, W.listOf rdv.toArray re') :: (RW, W.listOf rv.toArray re) :: (R, W.listOf rvs.toArray epr) :: (K, W.listOf kvs.toArray ep) :: (D, LCg.lst ys) :: (s1.heap.objs.size + 1, o1) :: (44, tabObj p44) :: (37, tabObj p37) :: []) ++ rdsObjs w0.params (rsA ++ { r with io := io6 } :: rsB') from hp) with hp | hp
                            · exact hne p (show p ∈ ((WL, LCg.lst wys) :: (TA, TO) :: (RD, W.listOf rdv.toArray re') :: (RW, W.listOf rv.toArray re) :: (R, W.listOf rvs.toArray epr) :: (K, W.listOf kvs.toArray ep) :: (D, LCg.lst ys) :: (s1.heap.objs.size + 1, o1) :: (44, tabObj p44) :: (37, tabObj p37) :: []) ++ rdsObjs w0.params (rsA ++ r :: rsB') from List.mem_append_left _ hp)
                            · exact rds_put_ne (fun p hp => hne p (show p ∈ ((WL, LCg.lst wys) :: (TA, TO) :: (RD, W.listOf rdv.toArray re') :: (RW, W.listOf rv.toArray re) :: (R, W.listOf rvs.toArray epr) :: (K, W.listOf kvs.toArray ep) :: (D, LCg.lst ys) :: (s1.heap.objs.size + 1, o1) :: (44, tabObj p44) :: (37, tabObj p37) :: []) ++ rdsObjs w0.params (rsA ++ r :: rsB') from List.mem_append_right _ hp)) p hp
                    case done_s28 =>
                      rintro h' tk' m' news' F' N' ⟨rsA, rsB, u5, u6, u7, rfl, rfl, hA, hB, hap2, hR2, hrv2⟩
                      rw [List.take_length] at hA
                      rw [List.drop_length] at hB
                      have hB0 : rsB = [] := by
                        cases rsB with
                        | nil => rfl
                        | cons r rs => exact hB.elim
                      subst hB0
                      rw [List.append_nil] at N' hap2 hR2 hrv2
                      have hdz : dec.length ≤ 1000 := by omega
                      have hrz : rdv.length ≤ 1000 := by rw [hrd.length]; omega
                      have hRD2 := allLt_of hRD
                      simp only [AllLt] at hRD2
                      have hyl := hys.length
                      rcases hfv.split with ⟨rfl, hfr⟩ | ⟨x, k, tx, tkk, rfl, rfl, hfr⟩
                      · rw [hrow] at hfr
                        have hfin := hdec.fin (tail := b6) hz0 hmm0 hW1 hW2 hfr
                        have N8 : News (ghostOf s1.heap [(48, 44), (41, 37)]) s1.heap.objs.size h' ((RD, W.listOf rdv.toArray re') :: (RW, W.listOf rv.toArray re) :: (R, W.listOf rvs.toArray epr) :: (K, W.listOf kvs.toArray ep) :: (D, LCg.lst ys) :: (s1.heap.objs.size + 1, o1) :: (44, tabObj p44) :: (37, tabObj p37) :: []) := News.sub N' fun p hp => .tail _ (.tail _ (List.mem_append_left (rdsObjs w0.params rsA) hp))
                        clear N' 
                        k_steps
                        ((try unfold Stop); k_dflt (refine' kmk_slice_ints ?FX10_s28 ?NX10_s28 ?lX10_s28 ?pX10_s28 ?qX10_s28 ?iX10_s28 ?mX10_s28 ?cX10_s28 ?_ ?sX10_s28 ?tX10_s28 ?zX10_s28; (case FX10_s28 => k_asm); (case NX10_s28 => k_asm); (case lX10_s28 => kmk_list); (case pX10_s28 => kmk_part); (case qX10_s28 => kmk_part); (case iX10_s28 => assumption); (case mX10_s28 => first | (with_reducible refine' kmk_run ?maX10_s28 ?mbX10_s28 ?mcX10_s28; (case maX10_s28 => assumption); (case mbX10_s28 => omega); (case mcX10_s28 => omega)) | (with_reducible refine' kmk_from ?mdX10_s28 ?meX10_s28; (case mdX10_s28 => assumption); (case meX10_s28 => omega)) | (with_reducible refine' kmk_upto ?mfX10_s28 ?mgX10_s28; (case mfX10_s28 => assumption); (case mgX10_s28 => omega))); (case cX10_s28 => exact rfl); (case sX10_s28 => with_unfolding_all rfl); (case tX10_s28 => kmk_pure); (case zX10_s28 => exact vsz (by assumption) (by omega))); intro D' ws' h' F' N' l1 hI' hC' hl'; (try k_lt l1); (try k_sweep))
                        k_steps
                        dsimp only [WhileStep2]
                        refine hQ2 _ _ ?_
                        k_steps
                        refine hQ9 _ _ ?_
                        k_steps
                      · obtain ⟨hx0, hk0, hk1⟩ := front_in hbd hmm0 hW1 hW2 hfr
                        rw [List.length_drop] at hk1
                        rw [hrow] at hfr
                        have hstep := hdec.step (tail := b6) hz0 hmm0 hW1 hW2 hfr
                        replace N' : News (ghostOf s1.heap [(48, 44), (41, 37)]) s1.heap.objs.size h' ((TA, { cls := .type "tuple", data := .seq #[.int x tx, .int ((k : Nat) : Int) tkk] }) :: (RD, W.listOf rdv.toArray re') :: (RW, W.listOf rv.toArray re) :: (R, W.listOf rvs.toArray epr) :: (K, W.listOf kvs.toArray ep) :: (D, LCg.lst ys) :: (s1.heap.objs.size + 1, o1) :: (44, tabObj p44) :: (37, tabObj p37) :: rdsObjs w0.params rsA) := News.sub N' fun p hp => .tail _ hp
                        k_steps
                        refine' whEnd ?wF_s28 ?wN_s28 ?wn_s28 ?wJ_s28
                        case wF_s28 => assumption
                        case wJ_s28 =>
                          refine' hJ1 _ _ _ ⟨at_ + k, _, re' + 1, dec ++ [x], rdv ++ [.int x tx], rsA, _, _, _, _, _, ?wa_s28, rfl, ?wb_s28, rfl, IntsAre.append hrd (.cons x tx .nil), ?wc_s28, hstep, hA.mono (by omega), ?wd_s28, hR2, hrv2⟩
                          case wa_s28 => omega
                          case wb_s28 => rfl
                          case wc_s28 => rw [List.length_append, List.length_singleton]; omega
                          case wd_s28 => exact hap2.sub (fun p hp => .tail _ (.tail _ (.tail _ hp)))
                        case wN_s28 =>
                          rename News _ _ _ _ => N9
                          exact News.sub N9 fun p hp => .tail _ hp
                        case wn_s28 => omega)
end
end Mine
end
theorem PySem.Challenge.cw_pg0172_02_holds : PySem.Challenge.rw_pg0172_02.Holds :=
  Mine.law02
