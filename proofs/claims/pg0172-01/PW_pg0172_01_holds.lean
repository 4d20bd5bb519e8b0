import PyProof.Rows.All
import Wide.All
import OpenK.AllK
import Wide.FinOn
import KE.BitLaws
import Lean
import PySem.Challenge.RW_pg0172_01
set_option Elab.async false
set_option rowWalk.seconds 0
set_option compiler.extract_closed false
section
open PySem PySem.W PyProof.Rows PySem.Calls
set_option maxRecDepth 100000
set_option maxHeartbeats 8000000
namespace Mine
def vw : Program := view PySem.Challenge.pw_pg0172_01 [0,2,3,4,5,6,7,8,9,11,12,13,14,15,17,19,20,21,22]
local macro_rules | `(tactic| o_head $H) => `(tactic| (refine holds_open (q := Mine.vw) (loose := []) (Xt := fun s => xlAt Mine.vw [] s && recOk (RowW.records (OpenRow.toRowW (OpenLaw.row PySem.Challenge.rw_pg0172_01))) s) (XP := XL Mine.vw []) (Yf := Hook.obs $H) (Ya := Hook.val $H) (YP := Hook.says $H) (N := 1812) ?hl (Hook.of $H) (Hook.keeps $H) (fun s e => xl_of s (Bool.and_eq_true_iff.mp e).1) XL.keeps (by rfl) (by rfl) (by rfl) (fun s e => recFacts_of (Bool.and_eq_true_iff.mp e).2) (by rfl) (by first | assumption | decide +kernel) (by decide +kernel) ⟨rfl, rfl, rfl, rfl, rfl, by decide +kernel⟩ ?hw ?hc; (case hl => (intro w; kernel_rfl))))
theorem lawOk : OpenLaw.wellSaid PySem.Challenge.rw_pg0172_01 = true := by
  unfold OpenLaw.wellSaid OpenRow.wellSaid OpenRow.partSaid
  repeat' (with_reducible refine look_both ?_ ?_)
  all_goals kernel_rfl
local macro_rules | `(tactic| o_law) => `(tactic| refine holds_law (l := PySem.Challenge.rw_pg0172_01) Mine.lawOk fun said => ?_)
open_top hd for PySem.Challenge.rw_pg0172_01
end Mine
end
section
open PySem PySem.W PyProof.Rows
set_option maxRecDepth 100000
set_option maxHeartbeats 8000000
namespace Mine

def Tab1 (P : Addr) (ln : Nat) (qual : Str) (l : List (Addr × Obj)) : Prop :=
  l = [(P, tabObj #[])] ∨ ∃ c' oc vs t, l = [(P, tabObj #[rawInt ln, rawInt (4 : Nat), .ref c']), (c', oc)] ∧ oc.data = .fields vs ∧ vs[1]? = some (.str qual t)
def qA : Str := Str.ofString "_int2digits.<locals>.inner"
def qB : Str := Str.ofString "_digits2int.<locals>.inner"
def TabS (tl : List (Addr × Obj)) : Prop := ∃ a b, tl = a ++ b ∧ Tab1 37 35 qA a ∧ Tab1 44 50 qB b
def NT1 (o : Obj) : Prop := (∀ vs, o.data ≠ .fields vs) ∨ (o.cls ≠ .none)
def PreOk (pre : List (Addr × Obj)) : Prop := ∀ p ∈ pre, NT1 p.2 ∨ (@Ne Nat p.1 37 ∧ @Ne Nat p.1 44)
theorem PreOk.nil : PreOk [] := fun _ h => nomatch h
theorem PreOk.cons {a : Addr} {o : Obj} {r : List (Addr × Obj)} (h : NT1 o) (x : PreOk r) : PreOk ((a, o) :: r) := fun p hp => by
  rcases List.mem_cons.mp hp with rfl | hp
  · exact .inl h
  · exact x p hp
theorem PreOk.consA {a : Addr} {o : Obj} {r : List (Addr × Obj)} (h : @Ne Nat a 37 ∧ @Ne Nat a 44) (x : PreOk r) : PreOk ((a, o) :: r) := fun p hp => by
  rcases List.mem_cons.mp hp with rfl | hp
  · exact .inr h
  · exact x p hp
theorem News.sub {h₀ h : Heap} {L : Addr} {l l' : List (Addr × Obj)} (N : News h₀ L h l) (hs : ∀ p ∈ l', p ∈ l) : News h₀ L h l' := fun p hp => N p (hs p hp)
theorem News.inj {h₀ h : Heap} {L : Addr} {l : List (Addr × Obj)} (N : News h₀ L h l) {p q : Addr × Obj} (hp : p ∈ l) (hq : q ∈ l) (e : p.1 = q.1) : p.2 = q.2 := by
  have h1 := (N p hp).1
  have h2 := (N q hq).1
  rw [e, h2] at h1
  exact (Option.some.inj h1).symm

theorem Tab1.at {P : Addr} {ln : Nat} {qual : Str} {l : List (Addr × Obj)} (h : Tab1 P ln qual l) : ∃ ps, (P, tabObj ps) ∈ l := by
  rcases h with rfl | ⟨c', oc, vs, t, rfl, _, _⟩
  · exact ⟨_, .head _⟩
  · exact ⟨_, .head _⟩
def TabLike (vs : Array Value) : Prop := vs = #[] ∨ (∃ c, vs[2]? = some (.ref c)) ∨ ∃ x t, vs[1]? = some (.str x t)
def NTab (o : Obj) : Prop := ∀ vs, o.data = .fields vs → ¬ TabLike vs
theorem Tab1.fields {P : Addr} {ln : Nat} {qual : Str} {l : List (Addr × Obj)} (h : Tab1 P ln qual l) : ∀ p ∈ l, ∃ vs, p.2.data = .fields vs ∧ TabLike vs := by
  rcases h with rfl | ⟨c', oc, vs, t, rfl, h1, h2⟩
  · intro p hp; rw [List.mem_singleton.mp hp]; exact ⟨_, rfl, .inl rfl⟩
  · intro p hp
    rcases List.mem_cons.mp hp with rfl | hp
    · exact ⟨_, rfl, .inr (.inl ⟨c', rfl⟩)⟩
    · rw [List.mem_singleton.mp hp]; exact ⟨_, h1, .inr (.inr ⟨_, _, h2⟩)⟩
theorem UpdF.ofSplit {d : Addr} {o : Obj} {post : List (Addr × Obj)} (h2 : ∀ p ∈ post, p.1 ≠ d) : ∀ (pre : List (Addr × Obj)), (∀ p ∈ pre, p.1 ≠ d) → UpdF d o (pre ++ (d, o) :: post) (fun o' => pre ++ (d, o') :: post)
  | [], _ => .head h2
  | p :: r, h1 => .tail (h1 p (.head _)) (UpdF.ofSplit h2 r fun q hq => h1 q (.tail _ hq))

def CodeFor (c' : Addr) (qual : Str) (l : List (Addr × Obj)) : Prop := ∃ oc vs t, (c', oc) ∈ l ∧ oc.data = .fields vs ∧ vs[1]? = some (.str qual t)
theorem CodeFor.rec {h₀ h : Heap} {L c' : Addr} {qual : Str} {l news : List (Addr × Obj)} (x : CodeFor c' qual l) (N : News h₀ L h news) (hs : ∀ p ∈ l, p ∈ news) : h.CodeRec (.ref c') qual := by
  obtain ⟨oc, vs, t, hm, hd, hv⟩ := x
  exact codeRec_news N (hs _ hm) hd hv
theorem CodeFor.sub {c' : Addr} {qual : Str} {l l' : List (Addr × Obj)} (x : CodeFor c' qual l) (hs : ∀ p ∈ l, p ∈ l') : CodeFor c' qual l' :=
  let ⟨oc, vs, t, hm, r⟩ := x; ⟨oc, vs, t, hs _ hm, r⟩

section
variable {M : Model} {A : Around} {E : Value → Shared → Prop} {s : Shared} {h₀ : Heap} {L a c P : Addr} {m mg mb : Str → Option Value} {cn : Str} {cs : Scope} {ccd : Value} {cl : List (Str × Addr)} {pre post tb tl : List (Addr × Obj)}
  {p : Program} {loose : List Str} {mean : ExcName → Option Value} {name qual : Str} {params : Arguments} {body : List Stmt} {scope : Scope} {pos : Pos} {firstLine : Nat} {clos : List (Str × Addr)}

theorem nest1 {Q : Value → Shared → Prop} (F : Fr h₀ L s.heap m) (N : News h₀ L s.heap (pre ++ (tb ++ post))) (T : Top p loose mean mg mb h₀) (C : CodeHd h₀ c P) (hcd : ccd = .ref c)
    (TS : Tab1 P pos.line qual tb) (hcol : pos.col = 4) (hP37 : P = 37 ∨ P = 44) (hpre : PreOk pre) (hpost : ∀ q ∈ post, q.1 ≠ P)
    (hcl : closureFor scope (envX cn cs L a ccd cl) = pure clos)
    (h : ∀ f c' tb' ctv doc h' tk, Fr h₀ L h' m → Tab1 P pos.line qual tb' → CodeFor c' qual tb' → (∀ q ∈ tb', q ∈ tb ∨ (P = q.1 ∨ (∀ r ∈ pre ++ (tb ++ post), r.1 < q.1))) →
      News h₀ L h' ((f, fnMade name qual params body scope clos doc ((mg "__name__").getD .none) c' ctv) :: (pre ++ (tb' ++ post))) →
      (∀ q ∈ pre ++ (tb' ++ post), q.1 < f) → Q (.ref f) { s with heap := h', toks := tk }) :
    wpAny M A (makeFunction name qual params (.stmts body) scope (envX cn cs L a ccd cl) [] [] [] pos firstLine) Q E s := by
  have sep : ∀ q ∈ pre, q.1 ≠ P := fun q hq e => by
    obtain ⟨ps, hP⟩ := TS.at
    have := News.inj N (List.mem_append_left _ hq) (List.mem_append_right _ (List.mem_append_left _ hP)) e
    rcases hpre q hq with (h1 | h1) | ⟨h1, h2⟩
    · exact h1 ps (by rw [this])
    · exact h1 (by rw [this])
    · exact hP37.elim (fun hq1 => h1 (e.trans hq1)) (fun hq1 => h2 (e.trans hq1))
  rcases TS with rfl | ⟨c₁, oc, vs, t, rfl, hd, hv⟩
  · refine nest_K F N T C hcd (UpdF.ofSplit (post := post) hpost pre sep) (ps := #[]) trivial rfl hcl fun f c' oc vs t ctv doc h' tk F' N' hd hv hlt hcf => ?_
    have e : (#[] ++ #[rawInt pos.line, rawInt pos.col, Value.ref c'] : Array Value) = #[rawInt pos.line, rawInt (4 : Nat), .ref c'] := by rw [hcol]; rfl
    rw [e] at N'
    refine h f c' [(P, tabObj #[rawInt pos.line, rawInt (4 : Nat), .ref c']), (c', oc)] ctv doc h' tk F' (.inr ⟨c', oc, vs, t, rfl, hd, hv⟩) ⟨oc, vs, t, .tail _ (.head _), hd, hv⟩ ?_ ?_ ?_
    · intro q hq
      rcases List.mem_cons.mp hq with rfl | hq
      · exact .inr (.inl rfl)
      · rw [List.mem_singleton.mp hq]; exact .inr (.inr hlt)
    · refine News.sub N' fun q hq => ?_
      simp only [List.mem_cons, List.mem_append, List.not_mem_nil, or_false] at hq ⊢
      rcases hq with h | h | (h | h) | h <;> simp [h]
    · intro q hq
      simp only [List.mem_cons, List.mem_append, List.not_mem_nil, or_false] at hq
      rcases hq with h | (h | h) | h
      · exact Nat.lt_trans (hlt q (by simp [h])) hcf
      · subst h; exact Nat.lt_trans (hlt (P, tabObj #[]) (by simp)) hcf
      · subst h; exact hcf
      · exact Nat.lt_trans (hlt q (by simp [h])) hcf
  · refine nestHit_K (c' := c₁) (P := P) (ps := #[rawInt pos.line, rawInt (4 : Nat), .ref c₁]) F N T C hcd (by simp) (by simp [TriplesOk, rawInt]) (by simp [codeAmong, rawInt, hcol]) hcl fun f ctv doc h' tk F' N' hlt => ?_
    exact h f c₁ _ ctv doc h' tk F' (.inr ⟨c₁, oc, vs, t, rfl, hd, hv⟩) ⟨oc, vs, t, .tail _ (.head _), hd, hv⟩ (fun q hq => .inl hq) N' hlt

theorem code_ne {P : Addr} {qual : Str} {c' : Addr} {oc : Obj} {vs : Array Value} {t : Tok} {ps : Array Value} {l : List (Addr × Obj)} {h : Heap} (N : News h₀ L h l) (h1 : (c', oc) ∈ l) (h2 : (P, tabObj ps) ∈ l) (hd : oc.data = .fields vs) (hv : vs[1]? = some (.str qual t))
    (hps : ∀ x t, ps[1]? ≠ some (.str x t)) : c' ≠ P := fun e => by
  have := News.inj N h1 h2 e
  simp only at this
  subst this
  simp only [Data.fields.injEq] at hd
  subst hd
  exact hps _ _ hv
theorem Tab1.ne {h : Heap} {l : List (Addr × Obj)} {P P' : Addr} {ln ln' : Nat} {qual qual' : Str} {tb tb' : List (Addr × Obj)} (N : News h₀ L h l) (x : Tab1 P ln qual tb) (y : Tab1 P' ln' qual' tb') (h1 : ∀ p ∈ tb, p ∈ l) (h2 : ∀ p ∈ tb', p ∈ l) (hne : P ≠ P') : ∀ q ∈ tb, q.1 ≠ P' := by
  have hP : ∃ ps, (P', tabObj ps) ∈ tb' ∧ ∀ x t, ps[1]? ≠ some (.str x t) := by
    rcases y with rfl | ⟨c₁, oc, vs, t, rfl, hd, hv⟩
    · exact ⟨_, .head _, by simp⟩
    · exact ⟨_, .head _, by simp [rawInt]⟩
  obtain ⟨ps, hP1, hP2⟩ := hP
  rcases x with rfl | ⟨c₁, oc, vs, t, rfl, hd, hv⟩
  · intro q hq; rw [List.mem_singleton.mp hq]; exact hne
  · intro q hq
    rcases List.mem_cons.mp hq with rfl | hq
    · exact hne
    · rw [List.mem_singleton.mp hq]
      exact code_ne N (h1 _ (.tail _ (.head _))) (h2 _ hP1) hd hv hP2

def Grow (pre tl tl' : List (Addr × Obj)) : Prop := ∀ q ∈ tl', (∃ q₀ ∈ tl, q₀.1 = q.1) ∨ (∀ p ∈ pre, p.1 < q.1)
theorem Grow.refl (pre tl : List (Addr × Obj)) : Grow pre tl tl := fun q hq => .inl ⟨q, hq, rfl⟩
theorem Grow.sub {pre pre' tl tl' : List (Addr × Obj)} (h : Grow pre tl tl') (hs : ∀ p ∈ pre', p ∈ pre) : Grow pre' tl tl' := fun q hq => (h q hq).elim .inl fun g => .inr fun p hp => g p (hs p hp)
theorem Grow.trans {pre tl tl' tl'' : List (Addr × Obj)} (h : Grow pre tl tl') (h' : Grow pre tl' tl'') : Grow pre tl tl'' := fun q hq => by
  rcases h' q hq with ⟨q₀, hq₀, e⟩ | g
  · rcases h q₀ hq₀ with ⟨q₁, hq₁, e₁⟩ | g
    · exact .inl ⟨q₁, hq₁, e₁.trans e⟩
    · exact .inr fun p hp => e ▸ g p hp
  · exact .inr g
theorem grow1 {P : Addr} {ln : Nat} {qual : Str} {pre tb post tb' : List (Addr × Obj)} (TS : Tab1 P ln qual tb) (hs : ∀ q ∈ tb', q ∈ tb ∨ (P = q.1 ∨ (∀ r ∈ pre ++ (tb ++ post), r.1 < q.1))) : ∀ q ∈ tb', (∃ q₀ ∈ tb, q₀.1 = q.1) ∨ (∀ p ∈ pre, p.1 < q.1) := fun q hq => by
  rcases hs q hq with h | h | h
  · exact .inl ⟨q, h, rfl⟩
  · obtain ⟨ps, hp⟩ := TS.at
    exact .inl ⟨_, hp, h⟩
  · exact .inr fun p hp => h p (List.mem_append_left _ hp)
theorem nestA {Q : Value → Shared → Prop} (F : Fr h₀ L s.heap m) (N : News h₀ L s.heap (pre ++ tl)) (T : Top p loose mean mg mb h₀) (C : CodeHd h₀ 41 37) (hcd : ccd = .ref 41)
    (TS : TabS tl) (hln : pos.line = 35) (hcol : pos.col = 4) (hq : qual = qA) (hpre : PreOk pre)
    (hcl : closureFor scope (envX cn cs L a ccd cl) = pure clos)
    (h : ∀ f c' tl' ctv doc h' tk, Fr h₀ L h' m → TabS tl' → Grow pre tl tl' → CodeFor c' qA tl' →
      News h₀ L h' ((f, fnMade name qual params body scope clos doc ((mg "__name__").getD .none) c' ctv) :: (pre ++ tl')) →
      (∀ q ∈ pre ++ tl', q.1 < f) → Q (.ref f) { s with heap := h', toks := tk }) :
    wpAny M A (makeFunction name qual params (.stmts body) scope (envX cn cs L a ccd cl) [] [] [] pos firstLine) Q E s := by
  obtain ⟨ta, tb, rfl, hA, hB⟩ := TS
  subst hq
  refine nest1 (post := tb) F N T C hcd (by rw [hln]; exact hA) hcol (.inl rfl) hpre (Tab1.ne N hB hA (fun p hp => by simp [hp]) (fun p hp => by simp [hp]) (by decide)) hcl fun f c' tb' ctv doc h' tk F' hT hC hs N' hlt => ?_
  exact h f c' (tb' ++ tb) ctv doc h' tk F' ⟨tb', tb, rfl, by rw [hln] at hT; exact hT, hB⟩ (fun q hq => (List.mem_append.mp hq).elim (fun h1 => (grow1 hA hs q h1).imp (fun ⟨q₀, a, b⟩ => ⟨q₀, List.mem_append_left _ a, b⟩) id) fun h1 => .inl ⟨q, List.mem_append_right _ h1, rfl⟩) (hC.sub fun p hp => List.mem_append_left _ hp) N' hlt

theorem nestB {Q : Value → Shared → Prop} (F : Fr h₀ L s.heap m) (N : News h₀ L s.heap (pre ++ tl)) (T : Top p loose mean mg mb h₀) (C : CodeHd h₀ 48 44) (hcd : ccd = .ref 48)
    (TS : TabS tl) (hln : pos.line = 50) (hcol : pos.col = 4) (hq : qual = qB) (hpre : PreOk pre)
    (hcl : closureFor scope (envX cn cs L a ccd cl) = pure clos)
    (h : ∀ f c' tl' ctv doc h' tk, Fr h₀ L h' m → TabS tl' → Grow pre tl tl' → CodeFor c' qB tl' →
      News h₀ L h' ((f, fnMade name qual params body scope clos doc ((mg "__name__").getD .none) c' ctv) :: (pre ++ tl')) →
      (∀ q ∈ pre ++ tl', q.1 < f) → Q (.ref f) { s with heap := h', toks := tk }) :
    wpAny M A (makeFunction name qual params (.stmts body) scope (envX cn cs L a ccd cl) [] [] [] pos firstLine) Q E s := by
  obtain ⟨ta, tb, rfl, hA, hB⟩ := TS
  subst hq
  have N2 : News h₀ L s.heap (pre ++ (tb ++ ta)) := News.sub N fun p hp => by
    simp only [List.mem_append] at hp ⊢
    rcases hp with h | h | h <;> simp [h]
  refine nest1 (post := ta) F N2 T C hcd (by rw [hln]; exact hB) hcol (.inr rfl) hpre (Tab1.ne N hA hB (fun p hp => by simp [hp]) (fun p hp => by simp [hp]) (by decide)) hcl fun f c' tb' ctv doc h' tk F' hT hC hs N' hlt => ?_
  refine h f c' (ta ++ tb') ctv doc h' tk F' ⟨ta, tb', rfl, hA, by rw [hln] at hT; exact hT⟩ (fun q hq => (List.mem_append.mp hq).elim (fun h1 => .inl ⟨q, List.mem_append_left _ h1, rfl⟩) fun h1 => (grow1 hB hs q h1).imp (fun ⟨q₀, a, b⟩ => ⟨q₀, List.mem_append_right _ a, b⟩) id) (hC.sub fun p hp => List.mem_append_right _ hp) ?_ ?_
  · refine News.sub N' fun p hp => ?_
    simp only [List.mem_cons, List.mem_append] at hp ⊢
    rcases hp with h | h | h | h <;> simp [h]
  · intro q hq
    refine hlt q ?_
    simp only [List.mem_append] at hq ⊢
    rcases hq with h | h | h <;> simp [h]

theorem TabS.fields (h : TabS tl) : ∀ p ∈ tl, ∃ vs, p.2.data = .fields vs ∧ TabLike vs := by
  obtain ⟨ta, tb, rfl, hA, hB⟩ := h
  exact fun p hp => (List.mem_append.mp hp).elim (hA.fields p) (hB.fields p)
theorem TabS.ne {h : Heap} {l : List (Addr × Obj)} {d : Addr} {o : Obj} (TS : TabS tl) (N : News h₀ L h l) (hm : (d, o) ∈ l) (hs : ∀ p ∈ tl, p ∈ l) (ho : NTab o) : ∀ p ∈ tl, p.1 ≠ d := fun p hp e => by
  obtain ⟨vs, hv, hl⟩ := TS.fields p hp
  have e2 : p.2 = o := News.inj N (hs p hp) hm e
  exact ho vs (by rw [← e2]; exact hv) hl
end
end Mine
namespace Mine
theorem ltNe {d B : Nat} {l : List (Addr × Obj)} (h : ∀ p ∈ l, p.1 < B) (hd : B ≤ d) : ∀ p ∈ l, p.1 ≠ d := fun p hp => Nat.ne_of_lt (Nat.lt_of_lt_of_le (h p hp) hd)
theorem ltNeL {d B : Nat} {l r : List (Addr × Obj)} (h : ∀ p ∈ l ++ r, p.1 < B) (hd : B ≤ d) : ∀ p ∈ l, p.1 ≠ d := fun p hp => Nat.ne_of_lt (Nat.lt_of_lt_of_le (h p (List.mem_append_left _ hp)) hd)
theorem appNe {d : Addr} {l r : List (Addr × Obj)} (h : ∀ p ∈ l, p.1 ≠ d) (h' : ∀ p ∈ r, p.1 ≠ d) : ∀ p ∈ l ++ r, p.1 ≠ d := fun p hp => (List.mem_append.mp hp).elim (h p) (h' p)
theorem cellNF {o : Obj} {v : Option Value} (h : o.data = .cell v) : ∀ vs, o.data ≠ .fields vs := fun vs e => by rw [h] at e; cases e
theorem ntOf {o : Obj} (h : ∀ vs, o.data ≠ .fields vs) : NTab o := fun vs e => absurd e (h vs)
theorem ntSeq {o : Obj} {xs : Array Value} {n : Nat} (h : o.data = .seq xs n) : NTab o := fun vs e => by rw [h] at e; cases e
theorem nt1 {o : Obj} (h : ∀ vs, o.data ≠ .fields vs) : NT1 o := .inl h
theorem nt2 {o : Obj} {c : String} (h : o.cls = .type c) : NT1 o := .inr (by rw [h]; exact nofun)
end Mine
namespace Mine
theorem cap3 {h₀ h : Heap} {L a d : Addr} {o od : Obj} {r : List (Addr × Obj)} (N : News h₀ L h ((a, o) :: (d, od) :: r)) :
    ∃ a' o' d' r', a' = a ∧ o = o' ∧ d' = d ∧ r = r' ∧ News h₀ L h ((a', o') :: (d', od) :: r') := ⟨a, o, d, r, rfl, rfl, rfl, rfl, N⟩
end Mine
namespace Mine
theorem cons_sub {x : Addr × Obj} {b c : List (Addr × Obj)} (h1 : x ∈ c) (h : ∀ p ∈ b, p ∈ c) : ∀ p ∈ x :: b, p ∈ c := fun p hp => by
  rcases List.mem_cons.mp hp with rfl | hp
  · exact h1
  · exact h p hp
theorem tail_sub {x : Addr × Obj} {b c : List (Addr × Obj)} (h : ∀ p ∈ b, p ∈ c) : ∀ p ∈ b, p ∈ x :: c := fun p hp => List.mem_cons_of_mem _ (h p hp)
end Mine
namespace Mine
theorem cap1 {h₀ h : Heap} {L a : Addr} {o : Obj} {r : List (Addr × Obj)} (N : News h₀ L h ((a, o) :: r)) :
    ∃ a' o' r', a' = a ∧ o = o' ∧ r = r' ∧ News h₀ L h ((a', o') :: r') := ⟨a, o, r, rfl, rfl, rfl, N⟩
end Mine
namespace Mine
def Stop (p : Prop) : Prop := p
theorem Stop.to {p : Prop} (h : Stop p) : p := h
theorem Stop.out {p : Prop} (h : p) : Stop p := h
end Mine
namespace Mine
theorem capM {h₀ h : Heap} {L : Addr} {m : Str → Option Value} (F : Fr h₀ L h m) : ∃ m0, m = m0 ∧ Fr h₀ L h m0 := ⟨m, rfl, F⟩
end Mine
namespace Mine
theorem capI {vs : List Value} {ns : List Int} (h : IntsAre vs ns) : ∃ vs', vs' = vs ∧ IntsAre vs' ns := ⟨vs, rfl, h⟩
theorem capT {tl : List (Addr × Obj)} (h : TabS tl) : ∃ tl', tl' = tl ∧ TabS tl' := ⟨tl, rfl, h⟩
theorem map3 (m0 : Str → Option Value) (a b c : Str) {v : Option Value} (h : m0 a = v) : m0 = fun z => if z = a then v else if z = b then m0 b else if z = c then m0 c else m0 z := by
  funext z
  by_cases h1 : z = a
  · subst h1; simp [h]
  · by_cases h2 : z = b
    · subst h2; simp [h1]
    · by_cases h3 : z = c
      · subst h3; simp [h1, h2]
      · simp [h1, h2, h3]
end Mine
namespace Mine
def NeAll (d : Nat) : List (Addr × Obj) → Prop
  | [] => True
  | p :: r => @Ne Nat p.1 d ∧ NeAll d r
theorem neAll_of {d : Addr} : ∀ {l : List (Addr × Obj)}, (∀ p ∈ l, p.1 ≠ d) → NeAll d l
  | [], _ => trivial
  | p :: _, h => ⟨h p (.head _), neAll_of fun q hq => h q (.tail _ hq)⟩
theorem ltSub {d : Nat} {l l' : List (Addr × Obj)} (h : ∀ p ∈ l', p.1 < d) (hs : ∀ p ∈ l, p ∈ l') : ∀ p ∈ l, p.1 ≠ d := fun p hp => Nat.ne_of_lt (h p (hs p hp))
theorem neSub {d : Nat} {l l' : List (Addr × Obj)} (h : ∀ p ∈ l', p.1 ≠ d) (hs : ∀ p ∈ l, p ∈ l') : ∀ p ∈ l, p.1 ≠ d := fun p hp => h p (hs p hp)
end Mine
namespace Mine
theorem map3_up {m0 : Str → Option Value} {a b c : Str} {v1 v2 v3 w1 w2 w3 : Option Value} : (fun z => if z = a then v1 else if z = b then v2 else if z = c then v3 else (fun z => if z = a then w1 else if z = b then w2 else if z = c then w3 else m0 z) z) = fun z => if z = a then v1 else if z = b then v2 else if z = c then v3 else m0 z := by
  funext z
  by_cases h1 : z = a
  · simp [h1]
  · by_cases h2 : z = b
    · simp [h1, h2]
    · by_cases h3 : z = c
      · simp [h1, h2, h3]
      · simp [h1, h2, h3]
end Mine
namespace Mine
theorem News.drop {h₀ h : Heap} {L : Addr} {x : Addr × Obj} {l : List (Addr × Obj)} (N : News h₀ L h (x :: l)) : News h₀ L h l := fun p hp => N p (.tail _ hp)
end Mine
namespace Mine
theorem ltSubs {d : Nat} {l l' : List (Addr × Obj)} (h : ∀ p ∈ l', p.1 < d) (hs : ∀ p ∈ l, p ∈ l') : ∀ p ∈ l, p.1 < d := fun p hp => h p (hs p hp)
end Mine
namespace Mine
theorem capS {l : List (Str × Tok)} {X : List Str} (h : List.map (fun x => x.1) l = X) : ∃ l', l' = l ∧ List.map (fun x => x.1) l' = X := ⟨l, rfl, h⟩
theorem map1 (m0 : Str → Option Value) (a : Str) : m0 = fun z => if z = a then m0 a else m0 z := by
  funext z
  by_cases h1 : z = a
  · subst h1; simp
  · simp [h1]
theorem map1_up {m0 : Str → Option Value} {a : Str} {v w : Option Value} : (fun z => if z = a then v else (fun z => if z = a then w else m0 z) z) = fun z => if z = a then v else m0 z := by
  funext z
  by_cases h1 : z = a
  · simp [h1]
  · simp [h1]
end Mine
end
section
open PySem PyProof.Rows
namespace Mine
theorem and_low (y s : Nat) : y &&& ((y / 2 ^ s) * 2 ^ s) = (y / 2 ^ s) * 2 ^ s := by
  have e : (y / 2 ^ s) * 2 ^ s = (y >>> s) <<< s := by rw [Nat.shiftLeft_eq, Nat.shiftRight_eq_div_pow]
  rw [e]
  apply Nat.eq_of_testBit_eq
  intro i
  rw [Nat.testBit_and, Nat.testBit_shiftLeft, Nat.testBit_shiftRight]
  by_cases h : s ≤ i
  · have : s + (i - s) = i := by omega
    simp [h, this]
  · simp [h]
theorem xor_low {y : Int} (hy : 0 ≤ y) (s : Nat) : Builtin.bitXor y (y.fdiv (2 ^ s) * 2 ^ s) = y % 2 ^ s := by
  have hp : (0 : Int) < 2 ^ s := Int.pow_pos (by decide)
  rw [Int.fdiv_eq_ediv_of_nonneg _ (Int.le_of_lt hp), bitXor_and]
  have h0 : 0 ≤ y / 2 ^ s * 2 ^ s := Int.mul_nonneg (Int.ediv_nonneg hy (Int.le_of_lt hp)) (Int.le_of_lt hp)
  rw [bitAnd_pp hy h0]
  have e : (y / 2 ^ s * 2 ^ s).toNat = (y.toNat / 2 ^ s) * 2 ^ s := by
    obtain ⟨n, rfl⟩ := Int.eq_ofNat_of_zero_le hy
    have : ((n : Int) / 2 ^ s * 2 ^ s) = ((n / 2 ^ s * 2 ^ s : Nat) : Int) := by
      rw [Int.natCast_mul, Int.natCast_ediv, Int.natCast_pow]; rfl
    rw [this, Int.toNat_natCast, Int.toNat_natCast]
  rw [e, and_low, ← e, Int.toNat_of_nonneg h0]
  have := Int.emod_add_mul_ediv y (2 ^ s)
  rw [Int.mul_comm] at this
  omega

def digI (b : Int) : Nat → Int → List Int
  | 0, _ => []
  | k + 1, y => y % b :: digI b k (y / b)
theorem digI_length (b : Int) : ∀ k y, (digI b k y).length = k
  | 0, _ => rfl
  | k + 1, y => by simp [digI, digI_length b k]
theorem pow_succ' (b : Int) (i : Nat) : b ^ (i + 1) = b * b ^ i := by rw [Int.pow_succ, Int.mul_comm]
theorem digI_split {b : Int} (hb : 0 < b) (j : Nat) : ∀ i y, digI b (i + j) y = digI b i (y % b ^ i) ++ digI b j (y / b ^ i)
  | 0, y => by simp [digI]
  | i + 1, y => by
    have hp : 0 < b ^ i := Int.pow_pos hb
    rw [show i + 1 + j = (i + j) + 1 by omega]
    simp only [digI, List.cons_append]
    have e1 : y % b ^ (i + 1) % b = y % b := by
      rw [pow_succ']; exact Int.emod_emod_of_dvd y (Int.dvd_mul_right b (b ^ i))
    have e2 : y % b ^ (i + 1) / b = y / b % b ^ i := by
      rw [pow_succ', Int.emod_def, Int.emod_def]
      have : y - b * b ^ i * (y / (b * b ^ i)) = y + b * (-(b ^ i * (y / (b * b ^ i)))) := by rw [Int.mul_neg, ← Int.mul_assoc]; omega
      rw [this, Int.add_mul_ediv_left _ _ (Int.ne_of_gt hb), Int.ediv_ediv_of_nonneg (Int.le_of_lt hb)]
      omega
    have e3 : y / b ^ (i + 1) = y / b / b ^ i := by rw [pow_succ', Int.ediv_ediv_of_nonneg (Int.le_of_lt hb)]
    rw [e1, e2, e3, digI_split hb j i (y / b)]
end Mine
namespace Mine
theorem fdiv2 (x : Int) : x.fdiv (2 ^ Int.toNat 1) = x / 2 := by
  show x.fdiv 2 = _
  rw [Int.fdiv_eq_ediv_of_nonneg _ (by decide)]
theorem shift_toNat {d n : Int} (hd : 0 ≤ d) (hn : 0 ≤ n) : (d * n).toNat = n.toNat * d.toNat := by
  obtain ⟨a, rfl⟩ := Int.eq_ofNat_of_zero_le hd
  obtain ⟨b, rfl⟩ := Int.eq_ofNat_of_zero_le hn
  rw [← Int.natCast_mul, Int.toNat_natCast, Int.toNat_natCast, Int.toNat_natCast, Nat.mul_comm]
theorem fdiv_pow_lt {y : Int} {s : Nat} {B : Nat} (hy : 0 ≤ y) (hB : y < (B : Int)) : (y.fdiv (2 ^ s)).natAbs < B := by
  have hp : (0 : Int) < 2 ^ s := Int.pow_pos (by decide)
  rw [Int.fdiv_eq_ediv_of_nonneg _ (Int.le_of_lt hp)]
  have h1 : 0 ≤ y / 2 ^ s := Int.ediv_nonneg hy (Int.le_of_lt hp)
  have h2 : y / 2 ^ s ≤ y := Int.ediv_le_self _ hy
  omega
theorem halves {b y : Int} {i j : Nat} (hb : 0 < b) (hy : 0 ≤ y) (h : y < b ^ (i + j)) : 0 ≤ y % b ^ i ∧ y % b ^ i < b ^ i ∧ 0 ≤ y / b ^ i ∧ y / b ^ i < b ^ j ∧ y % b ^ i ≤ y ∧ y / b ^ i ≤ y := by
  have hp : 0 < b ^ i := Int.pow_pos hb
  have h0 := Int.ediv_nonneg hy (Int.le_of_lt hp)
  refine ⟨Int.emod_nonneg _ (Int.ne_of_gt hp), Int.emod_lt_of_pos _ hp, h0, ?_, ?_, Int.ediv_le_self _ hy⟩
  · rw [Int.pow_add] at h
    exact Int.ediv_lt_of_lt_mul hp (by rw [Int.mul_comm]; exact h)
  · have := Int.emod_add_mul_ediv y (b ^ i)
    have := Int.mul_nonneg (Int.le_of_lt hp) h0
    omega
theorem set_one {b y : Int} {ns : List Int} {l : Nat} (h : l < ns.length) (h0 : 0 ≤ y) (h1 : y < b ^ 1) : ns.set l y = ns.take l ++ digI b 1 y ++ ns.drop (l + 1) := by
  rw [Int.pow_one] at h1
  simp only [digI, Int.emod_eq_of_lt h0 h1, List.append_assoc, List.singleton_append]
  exact List.set_eq_take_append_cons_drop .. |>.trans (by rw [if_pos h])
theorem put_two {b y : Int} {ns : List Int} {l i j : Nat} (hb : 0 < b) (h : l + i + j ≤ ns.length) :
    ((ns.take l ++ digI b i (y % b ^ i) ++ ns.drop (l + i)).take (l + i) ++ digI b j (y / b ^ i) ++ (ns.take l ++ digI b i (y % b ^ i) ++ ns.drop (l + i)).drop (l + i + j)) = ns.take l ++ digI b (i + j) y ++ ns.drop (l + i + j) := by
  have hl : (ns.take l ++ digI b i (y % b ^ i)).length = l + i := by rw [List.length_append, List.length_take, digI_length]; omega
  rw [List.take_append_of_le_length (by omega), List.take_of_length_le (by omega), digI_split hb j i y]
  rw [List.drop_append, List.drop_of_length_le (by omega), hl, List.nil_append, List.drop_drop]
  have : l + i + (l + i + j - (l + i)) = l + i + j := by omega
  rw [this]
  simp only [List.append_assoc]
end Mine
namespace Mine
def ndig (x n : Int) : Nat := ((Builtin.Int.intBits x : Int) + n - 1).fdiv n |>.toNat
theorem intBits_lt {x : Int} (hx : 0 ≤ x) : x < 2 ^ Builtin.Int.intBits x := by
  unfold Builtin.Int.intBits
  by_cases h : x = 0
  · subst h; simp
  · rw [if_neg (by simpa using h)]
    have h1 := Nat.lt_log2_self (n := x.natAbs)
    have h2 : (x.natAbs : Int) < ((2 ^ (x.natAbs.log2 + 1) : Nat) : Int) := by omega
    rw [Int.natCast_pow] at h2
    have h3 : (x.natAbs : Int) = x := by omega
    rw [h3] at h2
    exact h2
theorem intBits_le {x : Int} {k : Nat} (hx : 0 ≤ x) (h : x < 2 ^ k) : Builtin.Int.intBits x ≤ k := by
  unfold Builtin.Int.intBits
  by_cases h0 : x = 0
  · subst h0; simp
  · rw [if_neg (by simpa using h0)]
    have h1 : x.natAbs < 2 ^ k := by
      have : ((2 ^ k : Nat) : Int) = (2 : Int) ^ k := by rw [Int.natCast_pow]; rfl
      omega
    exact (Nat.log2_lt (by omega)).mpr h1
theorem pow2_mono {a b : Nat} (h : a ≤ b) : (2 : Int) ^ a ≤ 2 ^ b := by
  have := Nat.pow_le_pow_right (n := 2) (by decide) h
  have e : ∀ k : Nat, ((2 ^ k : Nat) : Int) = (2 : Int) ^ k := fun k => by rw [Int.natCast_pow]; rfl
  rw [← e, ← e]
  omega
theorem ndig_facts {x n : Int} (hx : 0 ≤ x) (hx2 : x < 2 ^ 62) (hn : 0 < n) :
    0 ≤ ((Builtin.Int.intBits x : Int) + n - 1).fdiv n ∧ ((Builtin.Int.intBits x : Int) + n - 1).fdiv n ≤ 62 ∧ x < (2 ^ n.toNat) ^ ndig x n := by
  have h1 := intBits_le hx hx2
  have h2 := intBits_lt hx
  rw [Int.fdiv_eq_ediv_of_nonneg _ (Int.le_of_lt hn)]
  have h3 : 0 ≤ ((Builtin.Int.intBits x : Int) + n - 1) / n := Int.ediv_nonneg (by omega) (by omega)
  refine ⟨h3, ?_, ?_⟩
  · have : ((Builtin.Int.intBits x : Int) + n - 1) / n < 63 := Int.ediv_lt_of_lt_mul hn (by omega)
    omega
  · unfold ndig
    rw [Int.fdiv_eq_ediv_of_nonneg _ (Int.le_of_lt hn), ← Int.pow_mul]
    have h4 : (Builtin.Int.intBits x : Int) ≤ n * (((Builtin.Int.intBits x : Int) + n - 1) / n) := by
      have := Int.emod_add_mul_ediv ((Builtin.Int.intBits x : Int) + n - 1) n
      have := Int.emod_lt_of_pos ((Builtin.Int.intBits x : Int) + n - 1) hn
      omega
    have h5 : Builtin.Int.intBits x ≤ n.toNat * (((Builtin.Int.intBits x : Int) + n - 1) / n).toNat := by
      have : ((n.toNat * (((Builtin.Int.intBits x : Int) + n - 1) / n).toNat : Nat) : Int) = n * (((Builtin.Int.intBits x : Int) + n - 1) / n) := by
        rw [Int.natCast_mul, Int.toNat_of_nonneg (by omega), Int.toNat_of_nonneg h3]
      omega
    exact Int.lt_of_lt_of_le h2 (pow2_mono h5)
theorem ndig_zero {n : Int} (hn : 0 < n) : ((Builtin.Int.intBits 0 : Int) + n - 1).fdiv n = 0 := by
  rw [Int.fdiv_eq_ediv_of_nonneg _ (Int.le_of_lt hn)]
  have : ((Builtin.Int.intBits 0 : Nat) : Int) = 0 := rfl
  rw [this]
  exact Int.ediv_eq_zero_of_lt (by omega) (by omega)
end Mine
namespace Mine
theorem fin_put {vs : List Value} {l : List Int} {b x hi : Int} {k : Nat} (hl : l.length = k) (hh : hi = k) (I : IntsAre vs (l.take (Int.toNat 0) ++ digI b (hi - 0).toNat x ++ l.drop hi.toNat)) : IntsAre vs (digI b k x) := by
  subst hh
  have e1 : ((k : Int) - 0).toNat = k := by omega
  have e2 : ((k : Int)).toNat = k := by omega
  rw [e1, e2, List.drop_of_length_le (by omega), List.append_nil] at I
  exact I
end Mine
namespace Mine
def undig (b : Int) : List Int → Int
  | [] => 0
  | d :: r => d + b * undig b r
theorem undig_nonneg {b : Int} (hb : 0 < b) : ∀ {l : List Int}, (∀ d ∈ l, 0 ≤ d) → 0 ≤ undig b l
  | [], _ => Int.le_refl _
  | d :: r, h => by
    have h1 := h d (.head _)
    have h2 := undig_nonneg hb (l := r) fun x hx => h x (.tail _ hx)
    have h3 := Int.mul_nonneg (Int.le_of_lt hb) h2
    simp only [undig]; omega
theorem undig_append (b : Int) (l : List Int) : ∀ (k : List Int), undig b (k ++ l) = undig b k + b ^ k.length * undig b l
  | [] => by simp [undig]
  | d :: r => by
    simp only [List.cons_append, undig, undig_append b l r, List.length_cons, pow_succ', Int.mul_add, Int.mul_assoc]
    omega
theorem undig_digI {b : Int} (hb : 0 < b) : ∀ (k : Nat) {y : Int}, 0 ≤ y → y < b ^ k → undig b (digI b k y) = y
  | 0, y, h0, h1 => by simp at h1; simp only [digI, undig]; omega
  | k + 1, y, h0, h1 => by
    have h2 : y / b < b ^ k := Int.ediv_lt_of_lt_mul hb (by rw [pow_succ'] at h1; rw [Int.mul_comm]; exact h1)
    simp only [digI, undig, undig_digI hb k (Int.ediv_nonneg h0 (Int.le_of_lt hb)) h2]
    have := Int.emod_add_mul_ediv y b
    omega
theorem digI_nonneg {b : Int} (hb : 0 < b) : ∀ (k : Nat) (y : Int), ∀ d ∈ digI b k y, 0 ≤ d ∧ d < b
  | 0, _, d, h => by simp [digI] at h
  | k + 1, y, d, h => by
    simp only [digI, List.mem_cons] at h
    rcases h with rfl | h
    · exact ⟨Int.emod_nonneg _ (Int.ne_of_gt hb), Int.emod_lt_of_pos _ hb⟩
    · exact digI_nonneg hb k _ d h
def slice (l : List Int) (lo hi : Nat) : List Int := (l.drop lo).take (hi - lo)
theorem slice_cut {l : List Int} {lo mid hi : Nat} (h1 : lo ≤ mid) (h2 : mid ≤ hi) : slice l lo hi = slice l lo mid ++ slice l mid hi := by
  unfold slice
  have e : hi - lo = (mid - lo) + (hi - mid) := by omega
  rw [e, List.take_add, List.drop_drop]
  have e2 : lo + (mid - lo) = mid := by omega
  rw [e2]
theorem slice_length {l : List Int} {lo hi : Nat} (h2 : hi ≤ l.length) : (slice l lo hi).length = hi - lo := by
  unfold slice; rw [List.length_take, List.length_drop]; omega
theorem slice_mem {l : List Int} {lo hi : Nat} : ∀ d ∈ slice l lo hi, d ∈ l := fun _ hd => List.mem_of_mem_drop (List.mem_of_mem_take hd)
theorem slice_one {l : List Int} {lo : Nat} (h : lo < l.length) : slice l lo (lo + 1) = [l.getD lo 0] := by
  unfold slice
  rw [show lo + 1 - lo = 1 by omega, List.drop_eq_getElem_cons h, List.take_succ_cons, List.take_zero, List.getD_eq_getElem?_getD, List.getElem?_eq_getElem h]
  rfl
theorem slice_all (l : List Int) : slice l 0 l.length = l := by simp [slice]
theorem undig_parts {b : Int} (hb : 0 < b) {l : List Int} (hl : ∀ d ∈ l, 0 ≤ d) {lo mid hi : Nat} (h1 : lo ≤ mid) (h2 : mid ≤ hi) (h3 : hi ≤ l.length) :
    undig b (slice l lo hi) = undig b (slice l lo mid) + b ^ (mid - lo) * undig b (slice l mid hi) ∧ 0 ≤ undig b (slice l lo mid) ∧ 0 ≤ undig b (slice l mid hi) ∧
    undig b (slice l lo mid) ≤ undig b (slice l lo hi) ∧ undig b (slice l mid hi) ≤ undig b (slice l lo hi) := by
  have e := undig_append b (slice l mid hi) (slice l lo mid)
  rw [← slice_cut h1 h2, slice_length (by omega)] at e
  have a1 := undig_nonneg hb (l := slice l lo mid) fun d hd => hl d (slice_mem d hd)
  have a2 := undig_nonneg hb (l := slice l mid hi) fun d hd => hl d (slice_mem d hd)
  have hp : 0 < b ^ (mid - lo) := Int.pow_pos hb
  have a3 := Int.mul_nonneg (Int.le_of_lt hp) a2
  have a4 : 1 * undig b (slice l mid hi) ≤ b ^ (mid - lo) * undig b (slice l mid hi) := Int.mul_le_mul_of_nonneg_right (by omega) a2
  exact ⟨e, a1, a2, by omega, by omega⟩
end Mine
namespace Mine
theorem ints_at {vs : List Value} {ns : List Int} (h : IntsAre vs ns) {i : Nat} {v : Value} (hv : vs[i]? = some v) : ∃ t, i < ns.length ∧ v = .int (ns.getD i 0) t := by
  have hl : i < ns.length := by
    rw [← h.length]
    exact (List.getElem?_eq_some_iff.mp hv).1
  obtain ⟨t, ht⟩ := h.get i ns[i] (by simp [hl])
  rw [ht] at hv
  refine ⟨t, hl, ?_⟩
  rw [List.getD_eq_getElem?_getD, List.getElem?_eq_getElem hl]
  exact (Option.some.inj hv).symm
theorem ints_rev {vs : List Value} {ns : List Int} (h : IntsAre vs ns) : IntsAre vs.reverse ns.reverse := by
  induction h with
  | nil => exact .nil
  | cons i t h ih =>
    rw [List.reverse_cons, List.reverse_cons]
    exact IntsAre.append ih (.cons i t .nil)
structure DivInv (y B : Int) (ds : List Int) (i : Nat) (r : Int) (qs : List Int) : Prop where
  len : qs.length = i
  r0 : 0 ≤ r
  r1 : r < y
  q : ∀ q ∈ qs, 0 ≤ q ∧ q < B
  eq : undig B (ds.drop (ds.length - i)) = y * undig B qs.reverse + r
theorem DivInv.start {y B : Int} {ds : List Int} (hy : 0 < y) : DivInv y B ds 0 0 [] := ⟨rfl, Int.le_refl _, hy, (fun q h => by cases h), by simp [undig]⟩
theorem DivInv.step {y B : Int} {ds : List Int} {i : Nat} {r : Int} {qs : List Int} (h : DivInv y B ds i r qs) (hy : 0 < y) (hB : 0 < B) (hi : i < ds.length) (hds : ∀ d ∈ ds, 0 ≤ d ∧ d < B) :
    DivInv y B ds (i + 1) ((r * B + ds.reverse.getD i 0).fmod y) (qs ++ [(r * B + ds.reverse.getD i 0).fdiv y]) ∧ 0 ≤ r * B + ds.reverse.getD i 0 ∧ r * B + ds.reverse.getD i 0 < y * B := by
  have hd : ds.reverse.getD i 0 = ds.getD (ds.length - 1 - i) 0 := by
    rw [List.getD_eq_getElem?_getD, List.getD_eq_getElem?_getD, List.getElem?_reverse hi]
  have hlt : ds.length - 1 - i < ds.length := by omega
  have hmem : ds.getD (ds.length - 1 - i) 0 ∈ ds := by
    rw [List.getD_eq_getElem?_getD, List.getElem?_eq_getElem hlt]
    exact List.getElem_mem hlt
  obtain ⟨d0, d1⟩ := hds _ hmem
  rw [hd]
  generalize hdd : ds.getD (ds.length - 1 - i) 0 = d at *
  have hr := h.r0
  have hr1 := h.r1
  have a0 : 0 ≤ r * B := Int.mul_nonneg hr (Int.le_of_lt hB)
  have a1 : (r + 1) * B ≤ y * B := Int.mul_le_mul_of_nonneg_right (by omega) (Int.le_of_lt hB)
  rw [Int.add_mul, Int.one_mul] at a1
  have n0 : 0 ≤ r * B + d := by omega
  have n1 : r * B + d < y * B := by omega
  rw [Int.fdiv_eq_ediv_of_nonneg _ (Int.le_of_lt hy), Int.fmod_eq_emod_of_nonneg _ (Int.le_of_lt hy)]
  have e := Int.emod_add_mul_ediv (r * B + d) y
  refine ⟨⟨by simp [h.len], Int.emod_nonneg _ (Int.ne_of_gt hy), Int.emod_lt_of_pos _ hy, ?_, ?_⟩, n0, n1⟩
  · intro q hq
    rcases List.mem_append.mp hq with hq | hq
    · exact h.q q hq
    · rw [List.mem_singleton.mp hq]
      exact ⟨Int.ediv_nonneg n0 (Int.le_of_lt hy), Int.ediv_lt_of_lt_mul hy (by rw [Int.mul_comm B y]; exact n1)⟩
  · have e2 : ds.length - (i + 1) = ds.length - 1 - i := by omega
    have e3 : ds.drop (ds.length - (i + 1)) = d :: ds.drop (ds.length - i) := by
      rw [e2, List.drop_eq_getElem_cons hlt]
      have : ds[ds.length - 1 - i] = d := by rw [← hdd, List.getD_eq_getElem?_getD, List.getElem?_eq_getElem hlt]; rfl
      rw [this]
      congr 2
      omega
    rw [e3, List.reverse_append, List.reverse_singleton, List.singleton_append]
    simp only [undig]
    rw [h.eq, Int.mul_add, Int.mul_add]
    have c1 : B * (y * undig B qs.reverse) = y * (B * undig B qs.reverse) := by rw [← Int.mul_assoc, Int.mul_comm B y, Int.mul_assoc]
    have c2 : B * r = r * B := Int.mul_comm _ _
    omega
theorem DivInv.last {y B x : Int} {K : Nat} {r : Int} {qs : List Int} (hy : 0 < y) (hB : 0 < B) (hx : 0 ≤ x) (hxK : x < B ^ K) (h : DivInv y B (digI B K x) K r qs) :
    undig B qs.reverse = x / y ∧ r = x % y ∧ (∀ d ∈ qs.reverse, 0 ≤ d) ∧ undig B qs.reverse ≤ x := by
  have e := h.eq
  rw [digI_length, Nat.sub_self, List.drop_zero, undig_digI hB K hx hxK] at e
  have hn : ∀ d ∈ qs.reverse, 0 ≤ d := fun d hd => (h.q d (List.mem_reverse.mp hd)).1
  have h0 := h.r0
  have h1 := h.r1
  have e1 : x / y = undig B qs.reverse := by
    rw [e, Int.add_comm, Int.add_mul_ediv_left _ _ (Int.ne_of_gt hy), Int.ediv_eq_zero_of_lt h0 h1]
    omega
  have e2 : x % y = r := by
    rw [e, Int.add_comm, Int.add_mul_emod_self_left, Int.emod_eq_of_lt h0 h1]
  have p1 := undig_nonneg hB hn
  have p2 : 1 * undig B qs.reverse ≤ y * undig B qs.reverse := Int.mul_le_mul_of_nonneg_right (by omega) p1
  exact ⟨e1.symm, e2.symm, hn, by omega⟩
theorem bits_pos {y : Int} (hy : 0 < y) : 0 < Builtin.Int.intBits y := by
  unfold Builtin.Int.intBits
  rw [if_neg (by simp; omega)]
  omega
end Mine
namespace Mine
theorem fd_pos (x : Int) {y : Int} (hy : 0 < y) : x / y = x.fdiv y ∧ x % y = x.fmod y :=
  ⟨(Int.fdiv_eq_ediv_of_nonneg _ (Int.le_of_lt hy)).symm, (Int.fmod_eq_emod_of_nonneg _ (Int.le_of_lt hy)).symm⟩
theorem fd_not (x : Int) {y : Int} (hy : 0 < y) : Builtin.bitNot (Builtin.bitNot x / y) = x.fdiv y ∧ y + Builtin.bitNot (Builtin.bitNot x % y) = x.fmod y := by
  obtain ⟨a, b⟩ := fd_pos x hy
  rw [← a, ← b]
  have hb : ∀ z, Builtin.bitNot z = -z - 1 := fun _ => rfl
  rw [hb, hb, hb]
  have e := Int.emod_add_mul_ediv (-x - 1) y
  have r0 := Int.emod_nonneg (-x - 1) (Int.ne_of_gt hy)
  have r1 := Int.emod_lt_of_pos (-x - 1) hy
  have u := (Int.ediv_emod_unique (a := x) (r := y + (-((-x - 1) % y) - 1)) (q := -((-x - 1) / y) - 1) hy).mpr ⟨by rw [Int.mul_sub, Int.mul_neg]; omega, by omega, by omega⟩
  exact ⟨u.1.symm, u.2.symm⟩
theorem fd_neg (x y : Int) : (-x).fdiv (-y) = x.fdiv y ∧ -(-x).fmod (-y) = x.fmod y := by
  have h1 : (-x).fdiv (-y) = x.fdiv y := Int.neg_fdiv_neg x y
  refine ⟨h1, ?_⟩
  rw [Int.fmod_def, Int.fmod_def, h1, Int.neg_mul]
  omega
end Mine
end
section
open PySem PySem.W PyProof.Rows
set_option maxRecDepth 100000
set_option maxHeartbeats 8000000
namespace Mine
def TurnEnd (h₀ : Heap) (L I : Addr) (it : Obj) (J : (Str → Option Value) → List (Addr × Obj) → Prop) (s₁ s₂ : Shared) : Prop :=
  ∃ h' tk m' news', s₂ = { s₁ with heap := h', toks := tk } ∧ Fr h₀ L h' m' ∧ News h₀ L h' ((I, it) :: news') ∧ (∀ p ∈ news', p.1 ≠ I) ∧ J m' news'
def MTurn (h₀ : Heap) (L I : Addr) (it : Obj) (J : (Str → Option Value) → List (Addr × Obj) → Prop) (s₁ : Shared) (Q : Flow → Shared → Prop) (f : Flow) (s₂ : Shared) : Prop :=
  match f with
  | .ret v => Q (.ret v) s₂
  | .brk => Q .next s₂
  | _ => TurnEnd h₀ L I it J s₁ s₂
theorem TurnEnd.intro {h₀ h' : Heap} {L I : Addr} {it : Obj} {J : (Str → Option Value) → List (Addr × Obj) → Prop} {s₁ : Shared} {tk : Nat} {m' : Str → Option Value} {news' : List (Addr × Obj)}
    (F : Fr h₀ L h' m') (N : News h₀ L h' ((I, it) :: news')) (hne : ∀ p ∈ news', p.1 ≠ I) (hJ : J m' news') : TurnEnd h₀ L I it J s₁ { s₁ with heap := h', toks := tk } := ⟨h', tk, m', news', rfl, F, N, hne, hJ⟩

section
variable {prog : Program} {w : World} {A : Around} {E : Value → Shared → Prop} {s : Shared} {env : Env} {h₀ : Heap} {x : Str} {body : List Stmt} {Q : Flow → Shared → Prop}

theorem iterCore {I : Addr} {fp : List Addr} {n : Nat} {P : Nat → Value → Prop} {St : Nat → Heap → Prop} {m : Str → Option Value} {news rest : List (Addr × Obj)} (IO : Obj → Prop)
    (W : Walks prog w A I fp [I] n P St) (hfp : ∀ b ∈ fp, b = I ∨ h₀.get? b ≠ none ∨ ∃ o, (b, o) ∈ rest)
    (hI1 : I ≠ env.locals) (hI2 : h₀.get? I = none) (hL : env.locals ∉ fp)
    (hIO : ∀ i h, St i h → ∃ o, h.get? I = some o ∧ IO o)
    (F : Fr h₀ env.locals s.heap m) (N : News h₀ env.locals s.heap news) (hne : ∀ p ∈ news, p.1 ≠ I) (hst : St 0 s.heap)
    (J : Nat → (Str → Option Value) → List (Addr × Obj) → Prop) (h0 : J 0 m news) (hJ : ∀ i m' n', J i m' n' → ∀ q ∈ rest, q ∈ n')
    (turn : ∀ i v m₁ news₁ it h tk, i < n → P i v → J i m₁ news₁ → IO it → (∀ p ∈ news₁, p.1 ≠ I) → Fr h₀ env.locals h (fun y => if y = x then some v else m₁ y) → News h₀ env.locals h ((I, it) :: news₁) →
      wpAny (model prog w) A (execs body env) (MTurn h₀ env.locals I it (J (i + 1)) { s with heap := h, toks := tk } Q) E { s with heap := h, toks := tk })
    (done : ∀ h' tk m' news', Fr h₀ env.locals h' m' → News h₀ env.locals h' news' → J n m' news' → Q .next { s with heap := h', toks := tk }) :
    LoopAtV prog w A h₀ env x body Q E (.ref I) s := by
  refine ⟨I, fp, [I], n, P, St, m, news, J, rfl, W, hL, ?_, ?_, hst, F, N, h0, ?_, ?_⟩
  · intro b hb; rw [List.mem_singleton.mp hb]; exact hI2
  · intro p hp hw; exact hne p hp (List.mem_singleton.mp hw)
  · rintro i v m₁ news₁ s₁ own ⟨h, tk, rfl⟩ hi hP hJi hoff hown hget hall hst₁ F₁ N₁
    obtain ⟨it, hit, hio⟩ := hIO _ _ hst₁
    have hIfp : I ∈ fp := W.sub I (by simp)
    have hIown := hall I hIfp hI2 _ hit
    have hoff' : ∀ p ∈ news₁, p.1 ≠ I := fun p hp e => hoff p hp (by rw [e]; simp)
    have N₂ : News h₀ env.locals h ((I, it) :: news₁) := fun p hp => by
      rcases List.mem_cons.mp hp with rfl | hp
      · exact N₁ _ (List.mem_append_left _ hIown)
      · exact N₁ _ (List.mem_append_right _ hp)
    refine wpAny_mono (turn i v m₁ news₁ it h tk hi hP hJi hio hoff' F₁ N₂) (fun f s₂ p => ?_) fun _ _ e => e
    have fin : TurnEnd h₀ env.locals I it (J (i + 1)) { s with heap := h, toks := tk } s₂ → LoopStepU h₀ env.locals [I] own (J (i + 1)) { s with heap := h, toks := tk } .next s₂ := by
      rintro ⟨h', tk', m', news', e, F', N', hn, hj⟩
      refine ⟨rfl, h', tk', m', news', e, F', fun p hp => ?_, fun p hp hw => hn p hp (List.mem_singleton.mp hw), hj⟩
      rcases List.mem_append.mp hp with h1 | h1
      · rcases hfp _ (hown p h1) with h2 | h2 | ⟨o, h2⟩
        · have h3 := hget p h1
          rw [h2] at h3
          have h4 : p = (I, it) := by
            obtain ⟨a, b⟩ := p
            simp only at h2 h3
            subst h2
            exact congrArg _ (Option.some.inj (h3.symm.trans hit))
          rw [h4]; exact N' _ (.head _)
        · exact absurd (N₁ p (List.mem_append_left _ h1)).2.2 h2
        · have h3 := hJ _ _ _ hJi _ h2
          have h4 := (N₁ _ (List.mem_append_right _ h3)).1
          have h5 := hget p h1
          have h6 : p = (p.1, o) := by
            obtain ⟨a, b⟩ := p
            simp only at h4 h5 ⊢
            exact congrArg _ (Option.some.inj (h5.symm.trans h4))
          rw [h6]; exact N' _ (.tail _ (hJ _ _ _ hj _ h2))
      · exact N' p (.tail _ h1)
    cases f with
    | ret v => exact .ret p
    | brk => exact .brk p
    | next => exact .next (fin p)
    | cont => exact .cont (fin p)
  · intro h' tk m' news' F' N' _ hj
    exact done h' tk m' news' F' N' hj

def ListIt (ax : Addr) (o : Obj) : Prop := o.cls = .type "list_iterator" ∧ ∃ k, o.data = .fields #[.ref ax, .int k 0]
def RevIt (ax : Addr) (o : Obj) : Prop := o.cls = .type "list_reverseiterator" ∧ ∃ k, o.data = .fields #[.ref ax, .int k 0]
theorem iterL {ax : Addr} {lo : Obj} {vs : List Value} {ep : Nat} {m : Str → Option Value} {news : List (Addr × Obj)} (J : Nat → (Str → Option Value) → List (Addr × Obj) → Prop)
    (hh : A.handled = none) (F : Fr h₀ env.locals s.heap m) (N : News h₀ env.locals s.heap news) (hm : (ax, lo) ∈ news) (hc : lo.cls = .type "list") (hd : lo.data = .seq vs.toArray ep)
    (h0 : J 0 m news) (hJ : ∀ i m' n', J i m' n' → (ax, lo) ∈ n')
    (turn : ∀ I i v m₁ news₁ it h tk, vs[i]? = some v → J i m₁ news₁ → ListIt ax it → (∀ p ∈ news₁, p.1 ≠ I) → Fr h₀ env.locals h (fun y => if y = x then some v else m₁ y) → News h₀ env.locals h ((I, it) :: news₁) →
      wpAny (model prog w) A (execs body env) (MTurn h₀ env.locals I it (J (i + 1)) { s with heap := h, toks := tk } Q) E { s with heap := h, toks := tk })
    (done : ∀ h' tk m' news', Fr h₀ env.locals h' m' → News h₀ env.locals h' news' → J vs.length m' news' → Q .next { s with heap := h', toks := tk }) :
    wpAny (model prog w) A (pyIter (.ref ax)) (fun it s₂ => LoopAtV prog w A h₀ env x body Q E it s₂) E s := by
  have hax := N _ hm
  have hls : s.heap.IsList ax vs.toArray := ⟨lo, hax.1, hc, ep, hd⟩
  have hlt : ax < s.heap.objs.size := Heap.lt_size hax.1
  refine wpAny_pyIter_list hls ?_
  have W := Walks.list (prog := prog) (w := w) hh s.heap.objs.size ax (Nat.ne_of_lt hlt) vs.toArray
  have hlen : vs.toArray.size = vs.length := by simp
  rw [hlen] at W
  refine iterCore (rest := [(ax, lo)]) (ListIt ax) W ?_ ?_ ?_ ?_ ?_ (F.push _) (fun p hp => ⟨Heap.get?_push_of_some _ (N p hp).1, (N p hp).2⟩) (fun p hp => Nat.ne_of_lt (Heap.lt_size (N p hp).1))
    ⟨⟨_, Heap.get?_push_size _ rfl, rfl, rfl⟩, hls.at fun o e => Heap.get?_push_of_some _ e⟩ J h0 (fun i m' n' hj q hq => by rw [List.mem_singleton.mp hq]; exact hJ i m' n' hj) ?_ ?_
  · intro b hb
    rcases List.mem_cons.mp hb with e | hb
    · exact .inl e
    · exact .inr (.inr ⟨lo, by rw [List.mem_singleton.mp hb]; simp⟩)
  · exact fun e => absurd F.ns.lt (e ▸ Nat.lt_irrefl _)
  · exact next_is_new F
  · intro hb
    rcases List.mem_cons.mp hb with e | hb
    · exact absurd F.ns.lt (e ▸ Nat.lt_irrefl _)
    · exact hax.2.1 (List.mem_singleton.mp hb).symm
  · rintro i h ⟨⟨o, ho, hc', hd'⟩, _⟩
    exact ⟨o, ho, hc', _, hd'⟩
  · intro i v m₁ news₁ it h tk hi hP hj hio hn F₁ N₁
    exact turn _ i v m₁ news₁ it h tk (by simpa using hP) hj hio hn F₁ N₁
  · intro h' tk m' news' F' N' hj
    exact done h' tk m' news' F' N' hj

theorem iterRev {ax I : Addr} {lo : Obj} {vs : List Value} {ep : Nat} {m : Str → Option Value} {news : List (Addr × Obj)} (J : Nat → (Str → Option Value) → List (Addr × Obj) → Prop)
    (hh : A.handled = none) (F : Fr h₀ env.locals s.heap m) (N : News h₀ env.locals s.heap ((I, revObj ax ((vs.length : Int) - 1)) :: news)) (hne : ∀ p ∈ news, p.1 ≠ I) (hm : (ax, lo) ∈ news) (hc : lo.cls = .type "list") (hd : lo.data = .seq vs.toArray ep)
    (h0 : J 0 m news) (hJ : ∀ i m' n', J i m' n' → (ax, lo) ∈ n')
    (turn : ∀ i v m₁ news₁ it h tk, i < vs.length → vs.reverse[i]? = some v → J i m₁ news₁ → RevIt ax it → (∀ p ∈ news₁, p.1 ≠ I) → Fr h₀ env.locals h (fun y => if y = x then some v else m₁ y) → News h₀ env.locals h ((I, it) :: news₁) →
      wpAny (model prog w) A (execs body env) (MTurn h₀ env.locals I it (J (i + 1)) { s with heap := h, toks := tk } Q) E { s with heap := h, toks := tk })
    (done : ∀ h' tk m' news', Fr h₀ env.locals h' m' → News h₀ env.locals h' news' → J vs.length m' news' → Q .next { s with heap := h', toks := tk }) :
    wpAny (model prog w) A (pyIter (.ref I)) (fun it s₂ => LoopAtV prog w A h₀ env x body Q E it s₂) E s := by
  have hI := N _ (List.mem_cons_self ..)
  have hax := N _ (List.mem_cons_of_mem _ hm)
  have hl : s.heap.IsList ax vs.toArray := ⟨lo, hax.1, hc, ep, hd⟩
  have hit : s.heap.IsRevIter I ax ((vs.length : Int) - 1) := ⟨_, hI.1, rfl, rfl⟩
  refine wpAny_pyIter_revIter hit ?_
  have W := Walks.listRev (prog := prog) (w := w) hh I ax (hne _ hm) vs.toArray
  have hlen : vs.toArray.size = vs.length := by simp
  rw [hlen] at W
  refine iterCore (rest := [(ax, lo)]) (RevIt ax) W ?_ hI.2.1 hI.2.2 ?_ ?_ F (fun p hp => N p (.tail _ hp)) hne ⟨Nat.zero_le _, ?_, hl⟩ J h0 (fun i m' n' hj q hq => by rw [List.mem_singleton.mp hq]; exact hJ i m' n' hj) ?_ ?_
  · intro b hb
    rcases List.mem_cons.mp hb with e | hb
    · exact .inl e
    · exact .inr (.inr ⟨lo, by rw [List.mem_singleton.mp hb]; simp⟩)
  · intro hb
    rcases List.mem_cons.mp hb with e | hb
    · exact hI.2.1 e.symm
    · exact hax.2.1 (List.mem_singleton.mp hb).symm
  · rintro i h ⟨_, ⟨o, ho, hc', hd'⟩, _⟩
    exact ⟨o, ho, hc', _, hd'⟩
  · have e : (vs.length : Int) - 1 - ((0 : Nat) : Int) = (vs.length : Int) - 1 := by omega
    rw [e]; exact hit
  · intro i v m₁ news₁ it h tk hi hP hj hio hn F₁ N₁
    refine turn i v m₁ news₁ it h tk hi ?_ hj hio hn F₁ N₁
    rw [List.getElem?_reverse hi]
    simpa using hP
  · intro h' tk m' news' F' N' hj
    exact done h' tk m' news' F' N' hj
theorem forL {E : Value → Shared → Prop} {Q : Flow → Shared → Prop} {px pos : Pos} {iter : Expr} {m : Str → Option Value} (_F : Fr h₀ env.locals s.heap m) (hx : env.kindOf x = some .local)
    (hp : (env.scope.kind == .class || (env.scope.kind == .module && env.locals != env.globals)) = false)
    (h : wpAny (model prog w) A (eval iter env) (fun xv s₁ => wpAny (model prog w) A (pyIter xv) (fun it s₂ => LoopAtV prog w A h₀ env x body Q E it s₂) E s₁) E s)
    (hs : ∀ x, foldedSetIterable iter env x = pure x := by intro _; rfl)
    (hE : PassesOwn (model prog w) A env E := by passes_own) :
    wpAny (model prog w) A (exec (.For (.Name x px) iter body [] pos) env) Q E s := For_invV h₀ hx hp h hs hE
end
end Mine
end
section
open PySem PySem.W PyProof.Rows
set_option maxRecDepth 100000
set_option maxHeartbeats 8000000
namespace Mine
section
variable {prog : Program} {w : World} {A : Around} {E : Value → Shared → Prop} {s : Shared} {h₀ : Heap} {L D : Addr} {m : Str → Option Value} {news news' : List (Addr × Obj)}
theorem appendV {vs : List Value} {n : Nat} {x : Value} {Q : Value → Shared → Prop} (F : Fr h₀ L s.heap m) (N : News h₀ L s.heap news) (U : Upd D (W.listOf vs.toArray n) (W.listOf (vs ++ [x]).toArray (n + 1)) news news') (hz : vs.length ≤ 1000000)
    (h : ∀ h', Fr h₀ L h' m → News h₀ L h' news' → Q .none { s with heap := h' }) : wpAny (model prog w) A (call (.builtin "list.append") [.ref D, x]) Q E s := by
  have e : vs.toArray.push x = (vs ++ [x]).toArray := by simp
  rw [← e] at U
  exact append_K F N U h (by rw [List.size_toArray, sizeLine_eq]; omega)
theorem reverseV {vs : List Value} {n : Nat} {Q : Value → Shared → Prop} (F : Fr h₀ L s.heap m) (N : News h₀ L s.heap news) (U : Upd D (W.listOf vs.toArray n) (W.listOf vs.reverse.toArray n) news news') (hz : vs.length ≤ 1000000)
    (h : ∀ h', Fr h₀ L h' m → News h₀ L h' news' → Q .none { s with heap := h' }) : wpAny (model prog w) A (call (.builtin "list.reverse") [.ref D]) Q E s :=
  kl_reverse F N (by simp) U (by rw [sizeLine_eq]; simp; omega) h
end
section
variable {h h' : Heap} {L : Addr} {l l' : List (Addr × Obj)} {p : Addr × Obj}
theorem propN {p : Prop} (h : p) : p := h
theorem roomN {a : Nat} (h : a < recursionLimit) : a < recursionLimit := h
theorem unitN {a : Nat} (h : a < cLine) : a < cLine := h
theorem memN (h : p ∈ l) : p ∈ l := h
theorem ltA {α : Type} [LT α] {a b : α} (h : a < b) : a < b := h
theorem leA {α : Type} [LE α] {a b : α} (h : a ≤ b) : a ≤ b := h
theorem eqA {α : Type} {a b : α} (h : a = b) : a = b := h
end
end Mine
end
section
open PySem PySem.W PyProof.Rows PySem.Calls
set_option maxRecDepth 100000
set_option maxHeartbeats 8000000
namespace Mine
namespace F
theorem owner_si : Manifest.owners.lookup (String.ofList ['r', 'o', 't', 'a', 'r', 'e', 't', 'i', '_', 't', 'e', 's'].reverse) = some Manifest.sig_set_iterator := by kernel_rfl
theorem slot_si_next : Slot "set_iterator" "__next__" "set_iterator.__next__" :=
  .of (owner := "set_iterator") (n := "__next__") (by rw [typeLookup_type, builtinLookup_eq_fast]; kernel_rfl) (by decide +kernel) (by decide +kernel) (by decide +kernel)
    (by first | exact .inl (by decide +kernel) | exact .inr (by decide +kernel)) (by rw [isSubtype_type]; kernel_rfl)
theorem entry_si_next : entryFor table "set_iterator.__next__" = some Builtin.«set_iterator.__next__» := entryFor_of_tree (by kernel_rfl)
theorem args_si_next (a : Value) : argsOk "set_iterator.__next__" ⟨[a], []⟩ := by
  unfold argsOk; rw [signature?_of (id := "set_iterator.__next__") (n := ['_', '_', 't', 'x', 'e', 'n', '_', '_']) (o := ['r', 'o', 't', 'a', 'r', 'e', 't', 'i', '_', 't', 'e', 's']) (by kernel_rfl) owner_si]; kernel_rfl
theorem slot_si_iter : Slot "set_iterator" "__iter__" "set_iterator.__iter__" :=
  .of (owner := "set_iterator") (n := "__iter__") (by rw [typeLookup_type, builtinLookup_eq_fast]; kernel_rfl) (by decide +kernel) (by decide +kernel) (by decide +kernel)
    (by first | exact .inl (by decide +kernel) | exact .inr (by decide +kernel)) (by rw [isSubtype_type]; kernel_rfl)
theorem args_si_iter (a : Value) : argsOk "set_iterator.__iter__" ⟨[a], []⟩ := by
  unfold argsOk; rw [signature?_of (id := "set_iterator.__iter__") (n := ['_', '_', 'r', 'e', 't', 'i', '_', '_']) (o := ['r', 'o', 't', 'a', 'r', 'e', 't', 'i', '_', 't', 'e', 's']) (by kernel_rfl) owner_si]; kernel_rfl
theorem entry_si_iter : entryFor table "set_iterator.__iter__" = some Builtin.«dict_keyiterator.__iter__» :=
  entryFor_alias (id' := "dict_keyiterator.__iter__") (by kernel_rfl) (by first | rfl | decide +kernel | (unfold String.splitOn; simp +decide [String.splitOnAux])) (by decide +kernel) (by kernel_rfl)
theorem entry_set_iter : entryFor table "set.__iter__" = some Builtin.«frozenset.__iter__» :=
  entryFor_alias (id' := "frozenset.__iter__") (by kernel_rfl) (by first | rfl | decide +kernel | (unfold String.splitOn; simp +decide [String.splitOnAux])) (by decide +kernel) (by kernel_rfl)
end F

end Mine
end
section
open PySem PySem.W PyProof.Rows
set_option maxRecDepth 100000
set_option maxHeartbeats 8000000
namespace Mine
def oneTab (led plain : Bool) (h : Int) : SetTable := { mask := 7, place := #[SetTable.bits h % 8], dummies := #[], finger := 0, led, moves := 0, plain }
theorem layNew_fresh (led : Bool) (h : Int) (x : Value) : layNew (.fresh 0 0 led) #[] h x = (#[(h, x)], oneTab led true h, false, false) := by
  rfl
theorem below_one (j : Nat) : SetTable.below #[j] 0 = 0 := by
  unfold SetTable.below
  simp [SetTable.below.go]
theorem below_past (j : Nat) : SetTable.below #[j] (j + 1) = 1 := by
  unfold SetTable.below
  simp [SetTable.below.go]
theorem pick_one (next : Nat → Nat) (e : Int × Value) : pickOrder next #[e] = #[e] := by
  unfold pickOrder
  simp [pickOrder.go, Nat.mod_one]
abbrev ledOf (w : World) : Bool := !(w.params.followText "set-order")
abbrev set0 (led : Bool) : Obj := { cls := .type "set", dict := none, data := .set #[] 0 (.fresh 0 0 led) }
abbrev set1 (led : Bool) (h : Int) (v : Value) : Obj := { cls := .type "set", dict := none, data := .set #[(h, v)] 1 (oneTab led false h) }
section
variable {prog : Program} {w : World} {A : Around} {E : Value → Shared → Prop} {s : Shared}

theorem setAdd_one {a : Addr} {x : Str} {t : Tok} {led : Bool} {Q : Bool → Shared → Prop} (ho : s.heap.get? a = some (set0 led))
    (h : ∀ h', Heap.SameBut a s.heap h' → h'.get? a = some (set1 led ((PySem.strKind prog w).hash x) (.str x t)) → Q true { s with heap := h', toks := s.toks + 1 }) :
    wpAny (model prog w) A (setAdd a (.str x t)) Q E s := by
  unfold setAdd
  refine wpAny_holding ?_
  refine wpAny_bind ((PySem.strKind prog w).pyHash (k := x) (strKind_is _ _ _ _) ?_)
  unfold setAddHashed setAddHashedIn
  have ho' : Heap.get? { s with toks := s.toks + 1 }.heap a = some (set0 led) := ho
  have hel : ElemsOf (PySem.strKind prog w) (#[] : Array (Int × Value)).toList := fun e he => by simp at he
  refine wpAny_holding (wpAny_bind (wpAny_setState_of ho' rfl rfl ?_))
  dsimp only
  rw [byScan_of (knd := PySem.strKind prog w) rfl (by show 0 < 4096; omega) hel]
  simp only [↓reduceIte]
  unfold setAddByScan
  refine wpAny_bind ?_
  refine wpAny_bind (wpAny_rule ?_)
  refine wpAny_bind (wpAny_setScan_of (knd := PySem.strKind prog w) (k := x) (strKind_is _ _ _ _) ho' rfl rfl hel ?_)
  rw [show List.findIdx? (fun e => (PySem.strKind prog w).is x e.2) (#[] : Array (Int × Value)).toList = none from rfl]
  dsimp only
  rw [layNew_fresh]
  dsimp only
  refine wpAny_bind (wpAny_pure ?_)
  rw [show (oneTab led true ((PySem.strKind prog w).hash x)).plain = true from rfl]
  simp only [↓reduceIte]
  rw [show hashByValue 8 (.str x t) = pure false from rfl]
  refine wpAny_bind (wpAny_pure ?_)
  simp only [Bool.false_eq_true, ↓reduceIte]
  refine wpAny_bind (wpAny_storeSet_of ho' rfl ?_ (by show 1 ≤ sizeLine; rw [sizeLine_eq]; omega))
  rw [show (!false && ({ (oneTab led true ((PySem.strKind prog w).hash x)) with plain := false } : SetTable).tooFull) = false from rfl]
  simp only [Bool.false_eq_true, ↓reduceIte]
  refine wpAny_pure (wpAny_pure ?_)
  exact h _ (Heap.SameBut.update ..) (Heap.get?_update_self _ ho' rfl)

theorem setLoop_one {I S l : Addr} {x : Str} {t : Tok} {led : Bool} {R : Result → Shared → Prop} (hh : A.handled = none) (hI : s.heap.IsListIter I l 0) (hl : s.heap.IsList l #[.str x t]) (hS : s.heap.get? S = some (set0 led)) (h1 : l ≠ I) (h2 : S ≠ I) (h3 : S ≠ l)
    (hR : ∀ h' tk, h'.get? S = some (set1 led ((PySem.strKind prog w).hash x) (.str x t)) → (∀ b o, b ≠ S → b ≠ I → s.heap.get? b = some o → h'.get? b = some o) → R (.ok (.ret .none)) { s with heap := h', toks := tk }) :
    codeAny (model prog w) A (.builtin "set.update.loop" ⟨[.ref S, .ref I], []⟩) R s := by
  have W := Walks.list (prog := prog) (w := w) (A := A.in1) hh I l h1 #[.str x t]
  refine codeAny_builtin PyProof.Rows.F.entry_set_update_loop ?_
  rw [Around.under_plainId PyProof.Rows.F.plain_set_update_loop _]
  show wpAny _ A.in1 (pyNext (.ref I) >>= _) _ _ s
  refine wpAny_bind (W.item 0 s _ _ (by show 0 < 1; omega) ⟨hI, hl⟩ fun v h₁ tk₁ hv st₁ k₁ => ?_)
  have hv' : v = .str x t := by simpa using hv.symm
  subst hv'
  show wpAny _ A.in1 (holding [Value.str x t] (setAdd S (.str x t)) >>= _) _ _ _
  have hS₁ := k₁ S _ (by simpa using h2) hS
  refine wpAny_bind (wpAny_holding (setAdd_one (led := led) hS₁ fun h₂ sb₂ hS₂ => ?_))
  refine wpAny_pure ⟨plainId_quiet PyProof.Rows.F.plain_set_update_loop _, ?_⟩
  refine codeAny_builtin PyProof.Rows.F.entry_set_update_loop ?_
  rw [Around.under_plainId PyProof.Rows.F.plain_set_update_loop _]
  show wpAny _ A.in1 (pyNext (.ref I) >>= _) _ _ _
  refine wpAny_bind (W.done _ _ _ (W.frame _ _ _ st₁ fun b hb o e => ?_) fun h₃ tk₃ k₃ => ?_)
  · refine (sb₂.2 b fun e2 => ?_).trans e
    simp only [List.mem_cons, List.not_mem_nil, or_false] at hb
    rcases hb with hb | hb
    · exact h2 (e2.symm.trans hb)
    · exact h3 (e2.symm.trans hb)
  · show wpAny _ A.in1 (ret Value.none) _ _ _
    refine wpAny_pure (hR h₃ tk₃ (k₃ _ _ (by simpa using h2) hS₂) fun b o b1 b2 e => ?_)
    exact k₃ b o (by simpa using b2) ((sb₂.2 b b1).trans (k₁ b o (by simpa using b2) e))

theorem code_set_new_x (a : Value) {Q₁ : Value → Shared → Prop}
    (h : Q₁ (.ref s.heap.objs.size) { s with heap := s.heap.push (set0 (ledOf w)) }) :
    codeAny (model prog w) A (.call (.builtin "set.__new__") ⟨[.type "set", a], []⟩) (wants Q₁ E) s := by
  refine codeAny_of_tree ?_
  show wpAny _ A.in1 (do checkBuiltinCall "set.__new__" ⟨[.type "set", a], []⟩; again (.builtin "set.__new__" ⟨[.type "set", a], []⟩)) _ _ s
  refine wpAny_bind (wpAny_of_eq (PySem.F.newCall_set_1 a) (wpAny_pure ⟨plainId_quiet PySem.F.plain_set_new _, codeAny_builtin PySem.F.entry_set_new ?_⟩))
  rw [Around.under_plainId PySem.F.plain_set_new _]
  unfold Builtin.«set.__new__» Builtin.Frozenset.newClass
  have hsub := PySem.sub_set_self
  obtain ⟨hp, g, d, tk, os⟩ := s
  dsimp only
  wp_walk
  refine wpAny_askSetting (wpAny_pure ?_)
  dsimp only
  simp only [newObj]
  refine wpAny_bind (wpAny_alloc (wpAny_pure ?_))
  exact wpAny_pure h

theorem call_set_str {l : Addr} {x : Str} {t : Tok} {Q : Value → Shared → Prop}
    (hh : A.handled = none) (hl : s.heap.IsList l #[.str x t])
    (h : ∀ (h' : Heap) (tk : Nat), h'.get? s.heap.objs.size = some (set1 (ledOf w) ((PySem.strKind prog w).hash x) (.str x t)) → (∀ b o, s.heap.get? b = some o → h'.get? b = some o) → Q (.ref s.heap.objs.size) { s with heap := h', toks := tk }) :
    wpAny (model prog w) A (call (.type "set") [.ref l]) Q E s := by
  obtain ⟨c, tl, hmro⟩ := PySem.F.called_set.mro
  have hmade := PySem.F.called_set.made
  have hsub := PySem.F.called_set.sub
  refine wpAny_call (codeAny_of_tree ?_)
  show wpAny _ _ (callAny (.type "set") _) _ _ _
  refine wpAny_pure ⟨Code.quiet_builtin _ (by decide +kernel), codeAny_builtin PySem.F.entry_type_call ?_⟩
  rw [Around.under_plain (weight_type_call_type "set" [.ref l] []) rfl]
  have g1 := PySem.F.called_set.notType
  have g2 := PySem.F.called_set.canCreate
  have g3 := PySem.F.typeCall_set_1 (.ref l)
  repeat (any_goals (first | assumption | wp_step))
  let P₀ : Value → Shared → Prop := fun obj s₁ => obj = .ref s.heap.objs.size ∧ s₁ = { s with heap := s.heap.push (set0 (ledOf w)) }
  let P₁ : Value → Shared → Prop := fun r s₂ => r = .none ∧ ∃ h' tk, s₂ = { s with heap := h', toks := tk } ∧ h'.get? s.heap.objs.size = some (set1 (ledOf w) ((PySem.strKind prog w).hash x) (.str x t)) ∧ (∀ b o, s.heap.get? b = some o → h'.get? b = some o)
  refine codeAny_mono (code_set_new_x (.ref l) (E := E) (Q₁ := P₀) ⟨rfl, rfl⟩) fun r s₁ hr => ?_
  cases r with
  | error e => exact hr
  | ok fl =>
    cases fl with
    | ret obj =>
      obtain ⟨rfl, rfl⟩ := hr
      have hS : (s.heap.push (set0 (ledOf w))).get? s.heap.objs.size = some (set0 (ledOf w)) := Heap.get?_push_size _ rfl
      have hT : Shared.TypeIs { s with heap := s.heap.push (set0 (ledOf w)) } (.ref s.heap.objs.size) "set" := ⟨_, hS, rfl⟩
      have g4 := PySem.F.called_set.init.lookup
      have g5 := PySem.F.called_set.init.bind (.ref s.heap.objs.size)
      repeat (any_goals (first | assumption | wp_step))
      refine codeAny_mono (codeAny_call_builtin (R := wants P₁ E) PySem.F.called_set.init.plain PySem.F.entry_set_init (check_set_init_1 hT ?_)) fun r₂ s₂ hr₂ => ?_
      · obtain ⟨⟨ocls, odict, odata, oslots⟩, hol, hcl, nl, hdl⟩ := hl
        simp only at hcl hdl
        subst hcl; subst hdl
        have hol' : (s.heap.push (set0 (ledOf w))).get? l = some { cls := .type "list", dict := odict, data := .seq #[.str x t] nl, slots := oslots } := Heap.get?_push_of_some _ hol
        have g6 := PySem.F.sub_list_set
        have g7 := PySem.F.sub_list_frozenset
        have g8 : (Value.type "list" == Value.type "dict") = false := by decide
        have hl1 : (s.heap.push (set0 (ledOf w))).IsList l #[.str x t] := ⟨_, hol', rfl, nl, rfl⟩
        have hlS : l < s.heap.objs.size := Heap.lt_size hol
        unfold Builtin.«set.__init__» noKeywords Builtin.Frozenset.updateFrom
        generalize hPI : pyIter = PI
        wp_walk
        subst hPI
        refine wpAny_pyIter_list hl1 ?_
        refine wpAny_bind (wpAny_runValue ?_)
        have hsz : (s.heap.push (set0 (ledOf w))).objs.size = s.heap.objs.size + 1 := Heap.size_push _ _
        refine setLoop_one (l := l) (x := x) (t := t) (led := ledOf w) (by simp [hh]) ⟨_, Heap.get?_push_size _ rfl, rfl, rfl⟩ (hl1.push _) (Heap.get?_push_of_some _ hS) (by rw [hsz]; exact Nat.ne_of_lt (Nat.lt_succ_of_lt hlS)) (by rw [hsz]; exact Nat.ne_of_lt (Nat.lt_succ_self _)) (Nat.ne_of_gt hlS) fun h' tk hS' hk => ?_
        refine wpAny_pure ?_
        show wpAny _ _ (ret Value.none) _ _ _
        refine wpAny_pure ⟨rfl, h', tk, rfl, hS', fun b o e => ?_⟩
        have hb := Heap.lt_size e
        exact hk b o (Nat.ne_of_lt hb) (by rw [hsz]; exact Nat.ne_of_lt (Nat.lt_succ_of_lt hb)) (Heap.get?_push_of_some _ (Heap.get?_push_of_some _ e))
      · cases r₂ with
        | error e => exact hr₂
        | ok fl₂ =>
          cases fl₂ with
          | ret r =>
            obtain ⟨rfl, h', tk, rfl, hS', hk'⟩ := hr₂
            repeat (any_goals (first | assumption | wp_step))
            exact h _ _ hS' hk'
          | _ => exact hr₂.elim
    | _ => exact hr.elim
end
end Mine
end
section
open PySem PySem.W PyProof.Rows PySem.Calls
set_option maxRecDepth 100000
set_option maxHeartbeats 8000000
namespace Mine
abbrev setIt (S : Addr) (a i n ep : Int) : Obj := { cls := .type "set_iterator", data := .fields #[rawInt a, rawInt i, .ref S, rawInt n, rawInt ep] }
section
variable {prog : Program} {w : World} {A : Around} {E : Value → Shared → Prop} {s : Shared}
theorem andOff {α : Type} {M : Model} {b d : Bool} {x y : Sem α} {Q : α → Shared → Prop} (hd : d = false) (h : wpAny M A y Q E s) : wpAny M A (if (b && d) = true then x else y) Q E s := by
  subst hd
  rw [Bool.and_false, if_neg (by decide)]
  exact h
theorem andOffU {α : Type} {M : Model} {d : Bool} {x y : Sem α} {Q : α → Shared → Prop} (hd : d = false) (h : wpAny M A y Q E s) : wpAny M A (if d = true then x else y) Q E s := by
  subst hd
  rw [if_neg (by decide)]
  exact h
theorem pyIter_set1 {S : Addr} {led : Bool} {h : Int} {v : Value} {Q : Value → Shared → Prop} (ho : s.heap.get? S = some (set1 led h v))
    (hQ : Q (.ref s.heap.objs.size) { s with heap := s.heap.push (setIt S 0 0 1 1) }) : wpAny (model prog w) A (pyIter (.ref S)) Q E s := by
  refine wpAny_pyIter_slot ⟨_, ho, rfl⟩ PySem.F.slot_set_iter (wpAny_call_entry PySem.F.slot_set_iter ⟨_, ho, rfl⟩ F.entry_set_iter ?_ (PySem.F.args_set_iter_1 _))
  unfold Builtin.«frozenset.__iter__»
  refine wpAny_bind (wpAny_of_eq (a := S) rfl ?_)
  unfold Builtin.Frozenset.sizeOf setEntries setDrawn setsByText setEpoch
  refine wpAny_bind (wpAny_bind (wpAny_bind (wpAny_setState_of ho rfl rfl (wpAny_pure (wpAny_pure ?_)))))
  refine wpAny_bind (wpAny_bind (wpAny_setState_of ho rfl rfl ?_))
  refine wpAny_bind (wpAny_bind (wpAny_askSetting (wpAny_pure ?_)))
  refine wpAny_pure ?_
  dsimp only
  refine andOff rfl ?_
  refine wpAny_bind (wpAny_pure ?_)
  refine wpAny_bind (wpAny_bind (wpAny_setState_of ho rfl rfl (wpAny_pure ?_)))
  refine wpAny_bind (wpAny_newObj_type (wpAny_pure ?_))
  exact ⟨_, rfl, "set_iterator", _, ⟨_, Heap.get?_push_size _ rfl, rfl⟩, F.slot_si_next.lookup, hQ⟩
theorem pyIter_set0 {S : Addr} {led : Bool} {Q : Value → Shared → Prop} (ho : s.heap.get? S = some (set0 led))
    (hQ : Q (.ref s.heap.objs.size) { s with heap := s.heap.push (setIt S 0 0 0 0) }) : wpAny (model prog w) A (pyIter (.ref S)) Q E s := by
  refine wpAny_pyIter_slot ⟨_, ho, rfl⟩ PySem.F.slot_set_iter (wpAny_call_entry PySem.F.slot_set_iter ⟨_, ho, rfl⟩ F.entry_set_iter ?_ (PySem.F.args_set_iter_1 _))
  unfold Builtin.«frozenset.__iter__»
  refine wpAny_bind (wpAny_of_eq (a := S) rfl ?_)
  unfold Builtin.Frozenset.sizeOf setEntries setDrawn setsByText setEpoch
  refine wpAny_bind (wpAny_bind (wpAny_bind (wpAny_setState_of ho rfl rfl (wpAny_pure (wpAny_pure ?_)))))
  refine wpAny_bind (wpAny_bind (wpAny_setState_of ho rfl rfl ?_))
  refine wpAny_bind (wpAny_bind (wpAny_askSetting (wpAny_pure ?_)))
  refine wpAny_pure ?_
  dsimp only
  refine andOff rfl ?_
  refine wpAny_bind (wpAny_pure ?_)
  refine wpAny_bind (wpAny_bind (wpAny_setState_of ho rfl rfl (wpAny_pure ?_)))
  refine wpAny_bind (wpAny_newObj_type (wpAny_pure ?_))
  exact ⟨_, rfl, "set_iterator", _, ⟨_, Heap.get?_push_size _ rfl, rfl⟩, F.slot_si_next.lookup, hQ⟩

def nextPlace (w : World) (h : Int) : Int := if w.params.followText "set-order" = true then 0 else ((SetTable.bits h % 8 + 1 : Nat) : Int)
theorem setNext_one {S : Addr} {h : Int} {v : Value} {Q : Option (Value × Nat) → Shared → Prop} (ho : s.heap.get? S = some (set1 (ledOf w) h v)) (hQ : Q (some (v, (nextPlace w h).toNat)) s) :
    wpAny (model prog w) A (setNext S 0 0 1) Q E s := by
  unfold setNext setsByText
  refine wpAny_bind (wpAny_setState_of ho rfl rfl ?_)
  refine wpAny_bind (wpAny_bind (wpAny_askSetting (wpAny_pure ?_)))
  show wpAny _ _ (if w.params.followText "set-order" = true then _ else _) _ _ _
  unfold nextPlace at hQ
  cases hb : w.params.followText "set-order" with
  | true =>
    rw [if_pos rfl]
    dsimp only
    rw [if_neg (by decide)]
    unfold setWalk setsByText
    refine wpAny_bind (wpAny_bind (wpAny_setState_of ho rfl rfl ?_))
    refine wpAny_bind (wpAny_bind (wpAny_askSetting (wpAny_pure ?_)))
    show wpAny _ _ (if w.params.followText "set-order" = true then _ else _) _ _ _
    rw [if_pos hb]
    refine wpAny_bind (wpAny_askSetting (wpAny_pure (wpAny_pure ?_)))
    rw [pick_one]
    rw [hb] at hQ
    exact hQ
  | false =>
    rw [if_neg (by decide)]
    dsimp only
    refine andOffU rfl ?_
    have hl : ledOf w = true := by simp [ledOf, hb]
    rw [hl]
    refine wpAny_bind (wpAny_of_eq (a := ()) rfl (wpAny_pure ?_))
    rw [hb] at hQ
    rw [show (oneTab true false h).place = #[SetTable.bits h % 8] from rfl, below_one]
    exact hQ
theorem setNext_end {S : Addr} {h : Int} {v : Value} {Q : Option (Value × Nat) → Shared → Prop} (ho : s.heap.get? S = some (set1 (ledOf w) h v)) (hQ : Q none s) :
    wpAny (model prog w) A (setNext S (nextPlace w h).toNat 1 1) Q E s := by
  unfold setNext setsByText nextPlace
  refine wpAny_bind (wpAny_setState_of ho rfl rfl ?_)
  refine wpAny_bind (wpAny_bind (wpAny_askSetting (wpAny_pure ?_)))
  show wpAny _ _ (if w.params.followText "set-order" = true then _ else _) _ _ _
  cases hb : w.params.followText "set-order" with
  | true =>
    rw [if_pos rfl]
    dsimp only
    rw [if_neg (by decide)]
    unfold setWalk setsByText
    refine wpAny_bind (wpAny_bind (wpAny_setState_of ho rfl rfl ?_))
    refine wpAny_bind (wpAny_bind (wpAny_askSetting (wpAny_pure ?_)))
    show wpAny _ _ (if w.params.followText "set-order" = true then _ else _) _ _ _
    rw [if_pos hb]
    refine wpAny_bind (wpAny_askSetting (wpAny_pure (wpAny_pure ?_)))
    rw [pick_one]
    exact hQ
  | false =>
    rw [if_neg (by decide)]
    dsimp only
    refine andOffU rfl ?_
    have hl : ledOf w = true := by simp [ledOf, hb]
    rw [hl]
    refine wpAny_bind (wpAny_of_eq (a := ()) rfl (wpAny_pure ?_))
    rw [show (oneTab true false h).place = #[SetTable.bits h % 8] from rfl, show ((if false = true then (0 : Int) else ((SetTable.bits h % 8 + 1 : Nat) : Int))).toNat = SetTable.bits h % 8 + 1 from Int.toNat_natCast _, below_past]
    exact hQ
theorem setNext_none {S : Addr} {led : Bool} {Q : Option (Value × Nat) → Shared → Prop} (ho : s.heap.get? S = some (set0 led)) (hQ : Q none s) :
    wpAny (model prog w) A (setNext S 0 0 0) Q E s := by
  unfold setNext setsByText
  refine wpAny_bind (wpAny_setState_of ho rfl rfl ?_)
  refine wpAny_bind (wpAny_bind (wpAny_askSetting (wpAny_pure ?_)))
  show wpAny _ _ (if w.params.followText "set-order" = true then _ else _) _ _ _
  cases hb : w.params.followText "set-order" with
  | true =>
    rw [if_pos rfl]
    dsimp only
    rw [if_neg (by decide)]
    unfold setWalk setsByText
    refine wpAny_bind (wpAny_bind (wpAny_setState_of ho rfl rfl ?_))
    refine wpAny_bind (wpAny_bind (wpAny_askSetting (wpAny_pure ?_)))
    show wpAny _ _ (if w.params.followText "set-order" = true then _ else _) _ _ _
    rw [if_pos hb]
    exact wpAny_bind (wpAny_askSetting (wpAny_pure (wpAny_pure hQ)))
  | false =>
    rw [if_neg (by decide)]
    dsimp only
    refine andOffU rfl ?_
    exact wpAny_bind (wpAny_of_eq (a := ()) (by cases led <;> rfl) (wpAny_pure hQ))

theorem entriesAt {a : Addr} {o : Obj} {es : Array (Int × Value)} {ep : Nat} {t : SetTable} {Q : Array (Int × Value) → Shared → Prop}
    (ho : s.heap.get? a = some o) (hd : o.data = .set es ep t) (hf : t.fits es.size = true) (h : Q es s) : wpAny (model prog w) A (setEntries a) Q E s := by
  unfold setEntries
  exact wpAny_bind (wpAny_setState_of ho hd hf (wpAny_pure h))
theorem nextPlace_cast (w : World) (h : Int) : ((nextPlace w h).toNat : Int) = nextPlace w h := by
  unfold nextPlace
  split
  · rfl
  · rw [Int.toNat_natCast]
def SetItAt (w : World) (H : Heap) (I S : Addr) (h : Int) : Nat → Prop
  | 0 => H.get? I = some (setIt S 0 0 1 1)
  | _ => H.get? I = some (setIt S (nextPlace w h) 1 1 1)
theorem next_one {I S : Addr} {h : Int} {v : Value} {Q : Option Value → Shared → Prop} (hI : s.heap.get? I = some (setIt S 0 0 1 1)) (ho : s.heap.get? S = some (set1 (ledOf w) h v))
    (hQ : ∀ h', h'.get? I = some (setIt S (nextPlace w h) 1 1 1) → (∀ b o, b ≠ I → s.heap.get? b = some o → h'.get? b = some o) → Q (some v) { s with heap := h' }) : wpAny (model prog w) A (pyNext (.ref I)) Q E s := by
  have hT : s.TypeIs (.ref I) "set_iterator" := ⟨_, hI, rfl⟩
  unfold pyNext
  refine wpAny_bind (wpAny_attempt (wpAny_callSpecial?_slot (name := Str.ofString "__next__") hT F.slot_si_next
    (wpAny_call_entry F.slot_si_next hT F.entry_si_next ?_ (F.args_si_next _))))
  unfold Builtin.«set_iterator.__next__»
  refine wpAny_bind (wpAny_of_eq (a := (Value.ref I, [])) rfl ?_)
  dsimp only
  refine wpAny_bind (wpAny_fieldsOf hI rfl ?_)
  dsimp only
  show wpAny _ _ (setEntries S >>= _) _ _ _
  refine wpAny_bind (entriesAt ho rfl rfl ?_)
  refine andOffU rfl ?_
  show wpAny _ _ (setNext S 0 0 1 >>= _) _ _ _
  refine wpAny_bind (setNext_one ho ?_)
  dsimp only
  refine wpAny_bind (wpAny_setField hI rfl (by show 0 < 5; omega) ?_)
  have hI2 : (s.heap.update I (Obj.mapFields (·.setIfInBounds 0 (rawInt ((nextPlace w h).toNat : Int))))).get? I = some (setIt S (nextPlace w h) 0 1 1) := by
    rw [Heap.get?_update_self _ hI rfl, nextPlace_cast]
    rfl
  refine wpAny_bind (wpAny_setField hI2 rfl (by show 1 < 5; omega) ?_)
  refine wpAny_pure ?_
  refine ⟨v, rfl, ?_⟩
  refine wpAny_pure (hQ _ ?_ ?_)
  · rw [Heap.get?_update_self _ hI2 rfl]
    rfl
  · intro b o hb e
    rw [Heap.get?_update_ne _ _ _ _ hb, Heap.get?_update_ne _ _ _ _ hb]
    exact e

theorem next_end {I S : Addr} {a i n : Int} {es : Array (Int × Value)} {T : SetTable} {ep : Nat} {Q : Option Value → Shared → Prop} (hh : A.handled = none) (hI : s.heap.get? I = some (setIt S a i n ep))
    (ho : s.heap.get? S = some { cls := .type "set", dict := none, data := .set es ep T }) (hf : T.fits es.size = true) (hn : ((es.size : Int) != n) = false)
    (hnx : ∀ (A' : Around) (Q' : Option (Value × Nat) → Shared → Prop) (E' : Value → Shared → Prop), Q' none s → wpAny (model prog w) A' (setNext S a.toNat i.toNat (ep : Int).toNat) Q' E' s)
    (hQ : ∀ h', (∀ b o, b ≠ I → s.heap.get? b = some o → h'.get? b = some o) → Q none { s with heap := h' }) : wpAny (model prog w) A (pyNext (.ref I)) Q E s := by
  have hT : s.TypeIs (.ref I) "set_iterator" := ⟨_, hI, rfl⟩
  unfold pyNext
  refine wpAny_bind (wpAny_attempt (wpAny_callSpecial?_slot (name := Str.ofString "__next__") hT F.slot_si_next
    (wpAny_call_entry F.slot_si_next hT F.entry_si_next ?_ (F.args_si_next _))))
  unfold Builtin.«set_iterator.__next__»
  refine wpAny_bind (wpAny_of_eq (a := (Value.ref I, [])) rfl ?_)
  dsimp only
  refine wpAny_bind (wpAny_fieldsOf hI rfl ?_)
  dsimp only
  show wpAny _ _ (setEntries S >>= _) _ _ _
  refine wpAny_bind (entriesAt ho rfl hf ?_)
  refine andOffU hn ?_
  show wpAny _ _ (setNext S a.toNat i.toNat (ep : Int).toNat >>= _) _ _ _
  refine wpAny_bind (hnx _ _ _ ?_)
  dsimp only
  refine wpAny_bind (wpAny_setField hI rfl (by show 2 < 5; omega) ?_)
  show wpAny _ _ (newExc (.type "StopIteration") [] >>= _) _ _ _
  refine wpAny_bind ?_
  simp only [newExc, newTuple]
  refine wpAny_bind (wpAny_newObj_type ?_ (by size_fits))
  refine wpAny_bind (m := firstArgMember _ _) (wpAny_of_eq (a := Value.none) (by first | rfl | (simp only [firstArgMember]; rfl)) ?_)
  refine wpAny_newObj_type ?_ (by size_fits)
  simp only [raiseNew]
  refine wpAny_bind (wpAny_handled ?_)
  first | rw [show A.in1.handled = none from hh] | rw [hh]
  refine wpAny_bind (wpAny_pure (wpAny_throw ?_))
  refine wpAny_bind (wpAny_isInstance (T := "StopIteration") (b := true) ⟨_, Heap.get?_push_size _ rfl, rfl⟩ isSubtype_stop ?_)
  refine wpAny_pure (hQ _ fun b o hb e => ?_)
  exact Heap.get?_push_of_some _ (Heap.get?_push_of_some _ ((Heap.get?_update_ne _ _ _ _ hb).trans e))
theorem si_self {I S : Addr} {a i n ep : Int} {Q : Value → Shared → Prop} (hI : s.heap.get? I = some (setIt S a i n ep)) (h : Q (.ref I) s) : wpAny (model prog w) A (pyIter (.ref I)) Q E s := by
  have hT : s.TypeIs (.ref I) "set_iterator" := ⟨_, hI, rfl⟩
  refine wpAny_pyIter_slot hT F.slot_si_iter (wpAny_call_entry F.slot_si_iter hT F.entry_si_iter ?_ (F.args_si_iter _))
  show wpAny _ _ (ret (.ref I)) _ _ s
  exact wpAny_pure ⟨_, rfl, "set_iterator", _, hT, F.slot_si_next.lookup, h⟩
theorem walksSet1 (hh : A.handled = none) (I S : Addr) (hne : S ≠ I) (h : Int) (v : Value) :
    Walks prog w A I [I, S] [I] 1 (fun _ u => u = v) (fun i H => SetItAt w H I S h i ∧ H.get? S = some (set1 (ledOf w) h v)) where
  sub := fun b hb => by simp at hb; simp [hb]
  frame := fun i H H' st hk => ⟨by unfold SetItAt; cases i <;> exact hk I (by simp) _ st.1, hk S (by simp) _ st.2⟩
  item := fun i s Q E hi st hQ => by
    have h0 : i = 0 := by omega
    subst h0
    refine next_one st.1 st.2 fun h' hI' hk => ?_
    exact hQ v h' s.toks rfl ⟨hI', hk S _ hne st.2⟩ fun b o hb e => hk b o (fun e2 => hb (by simp [e2])) e
  done := fun s Q E st hQ => by
    refine next_end (a := nextPlace w h) (i := 1) (n := 1) (ep := 1) hh st.1 st.2 rfl rfl (fun A' Q' E' hq => setNext_end st.2 hq) fun h' hk => ?_
    exact hQ h' s.toks fun b o hb e => hk b o (fun e2 => hb (by simp [e2])) e
  self := fun i s Q E st hQ => by
    cases i with
    | zero => exact si_self st.1 hQ
    | succ i => exact si_self st.1 hQ
theorem walksSet0 (hh : A.handled = none) (I S : Addr) (led : Bool) :
    Walks prog w A I [I, S] [I] 0 (fun _ _ => False) (fun _ H => H.get? I = some (setIt S 0 0 0 0) ∧ H.get? S = some (set0 led)) where
  sub := fun b hb => by simp at hb; simp [hb]
  frame := fun i H H' st hk => ⟨hk I (by simp) _ st.1, hk S (by simp) _ st.2⟩
  item := fun i s Q E hi st hQ => absurd hi (Nat.not_lt_zero _)
  done := fun s Q E st hQ => by
    refine next_end (a := 0) (i := 0) (n := 0) (ep := 0) hh st.1 st.2 rfl rfl (fun A' Q' E' hq => setNext_none st.2 hq) fun h' hk => ?_
    exact hQ h' s.toks fun b o hb e => hk b o (fun e2 => hb (by simp [e2])) e
  self := fun i s Q E st hQ => si_self st.1 hQ
end
section
variable {prog : Program} {w : World} {A : Around} {E : Value → Shared → Prop} {s : Shared} {env : Env} {h₀ : Heap} {x : Str} {body : List Stmt} {Q : Flow → Shared → Prop}
def SetItO (o : Obj) : Prop := o.cls = .type "set_iterator"
theorem iterSet1 {S : Addr} {hs : Int} {u : Value} {m : Str → Option Value} {news : List (Addr × Obj)}
    (hh : A.handled = none) (F : Fr h₀ env.locals s.heap m) (N : News h₀ env.locals s.heap news) (hm : (S, set1 (ledOf w) hs u) ∈ news)
    (J : Nat → (Str → Option Value) → List (Addr × Obj) → Prop) (h0 : J 0 m news) (hJ : ∀ i m' n', J i m' n' → (S, set1 (ledOf w) hs u) ∈ n')
    (turn : ∀ I m₁ news₁ it h tk, J 0 m₁ news₁ → SetItO it → (∀ p ∈ news₁, p.1 ≠ I) → Fr h₀ env.locals h (fun y => if y = x then some u else m₁ y) → News h₀ env.locals h ((I, it) :: news₁) →
      wpAny (model prog w) A (execs body env) (MTurn h₀ env.locals I it (J 1) { s with heap := h, toks := tk } Q) E { s with heap := h, toks := tk })
    (done : ∀ h' tk m' news', Fr h₀ env.locals h' m' → News h₀ env.locals h' news' → J 1 m' news' → Q .next { s with heap := h', toks := tk }) :
    wpAny (model prog w) A (pyIter (.ref S)) (fun it s₂ => LoopAtV prog w A h₀ env x body Q E it s₂) E s := by
  have hS := N _ hm
  have hlt : S < s.heap.objs.size := Heap.lt_size hS.1
  refine pyIter_set1 hS.1 ?_
  refine iterCore (rest := [(S, set1 (ledOf w) hs u)]) SetItO (walksSet1 hh s.heap.objs.size S (Nat.ne_of_lt hlt) hs u) ?_ ?_ ?_ ?_ ?_ (F.push _) (fun p hp => ⟨Heap.get?_push_of_some _ (N p hp).1, (N p hp).2⟩) (fun p hp => Nat.ne_of_lt (Heap.lt_size (N p hp).1))
    ⟨Heap.get?_push_size _ rfl, Heap.get?_push_of_some _ hS.1⟩ J h0 (fun i m' n' hj q hq => by rw [List.mem_singleton.mp hq]; exact hJ i m' n' hj) ?_ ?_
  · intro b hb
    rcases List.mem_cons.mp hb with e | hb
    · exact .inl e
    · exact .inr (.inr ⟨_, by rw [List.mem_singleton.mp hb]; exact List.mem_singleton.mpr rfl⟩)
  · exact fun e => absurd F.ns.lt (e ▸ Nat.lt_irrefl _)
  · exact next_is_new F
  · intro hb
    rcases List.mem_cons.mp hb with e | hb
    · exact absurd F.ns.lt (e ▸ Nat.lt_irrefl _)
    · exact hS.2.1 (List.mem_singleton.mp hb).symm
  · rintro i h ⟨hi, _⟩
    unfold SetItAt at hi
    cases i <;> exact ⟨_, hi, rfl⟩
  · intro i v m₁ news₁ it h tk hi hP hj hio hn F₁ N₁
    have h00 : i = 0 := by omega
    subst h00 hP
    exact turn _ m₁ news₁ it h tk hj hio hn F₁ N₁
  · intro h' tk m' news' F' N' hj
    exact done h' tk m' news' F' N' hj
theorem iterSet0 {S : Addr} {led : Bool} {m : Str → Option Value} {news : List (Addr × Obj)}
    (hh : A.handled = none) (F : Fr h₀ env.locals s.heap m) (N : News h₀ env.locals s.heap news) (hm : (S, set0 led) ∈ news)
    (done : ∀ h' tk, Fr h₀ env.locals h' m → News h₀ env.locals h' news → Q .next { s with heap := h', toks := tk }) :
    wpAny (model prog w) A (pyIter (.ref S)) (fun it s₂ => LoopAtV prog w A h₀ env x body Q E it s₂) E s := by
  have hS := N _ hm
  have hlt : S < s.heap.objs.size := Heap.lt_size hS.1
  refine pyIter_set0 hS.1 ?_
  refine iterCore (rest := [(S, set0 led)]) SetItO (walksSet0 hh s.heap.objs.size S led) ?_ ?_ ?_ ?_ ?_ (F.push _) (fun p hp => ⟨Heap.get?_push_of_some _ (N p hp).1, (N p hp).2⟩) (fun p hp => Nat.ne_of_lt (Heap.lt_size (N p hp).1))
    ⟨Heap.get?_push_size _ rfl, Heap.get?_push_of_some _ hS.1⟩ (fun _ m' n' => m' = m ∧ n' = news) ⟨rfl, rfl⟩ (fun i m' n' hj q hq => by rw [List.mem_singleton.mp hq, hj.2]; exact hm) ?_ ?_
  · intro b hb
    rcases List.mem_cons.mp hb with e | hb
    · exact .inl e
    · exact .inr (.inr ⟨_, by rw [List.mem_singleton.mp hb]; exact List.mem_singleton.mpr rfl⟩)
  · exact fun e => absurd F.ns.lt (e ▸ Nat.lt_irrefl _)
  · exact next_is_new F
  · intro hb
    rcases List.mem_cons.mp hb with e | hb
    · exact absurd F.ns.lt (e ▸ Nat.lt_irrefl _)
    · exact hS.2.1 (List.mem_singleton.mp hb).symm
  · rintro i h ⟨hi, _⟩
    exact ⟨_, hi, rfl⟩
  · intro i v m₁ news₁ it h tk hi
    exact absurd hi (Nat.not_lt_zero _)
  · rintro h' tk m' news' F' N' ⟨rfl, rfl⟩
    exact done h' tk F' N'
end
end Mine
end
section
open PySem PySem.W PyProof.Rows
set_option maxRecDepth 100000
set_option maxHeartbeats 8000000
namespace Mine
def b01 (b : Bool) : Int := if b then 1 else 0
def verdM (mod mn : Str) : Bool := decide (mn = mod) || PySem.Txt.startswith mn (mod ++ Str.ofString ".")
def verdF (d fn : Str) : Bool := PySem.Txt.startswith fn (d ++ Str.ofString "/")
abbrev rdDict (P : Params) (t1 t2 t3 : Tok) (S l ig : Addr) (n : Nat) : Obj := dictOf [⟨PyData.keyHash P (Str.ofString "_mods"), .str (Str.ofString "_mods") t1, .ref S⟩, ⟨PyData.keyHash P (Str.ofString "_dirs"), .str (Str.ofString "_dirs") t2, .ref l⟩, ⟨PyData.keyHash P (Str.ofString "_ignore"), .str (Str.ofString "_ignore") t3, .ref ig⟩] n
abbrev rdObjs (P : Params) (t1 t2 t3 : Tok) (x dx S l ig : Addr) (n : Nat) (so lo : Obj) (news : List (Addr × Obj)) : List (Addr × Obj) := (x, instObj 121 dx) :: (dx, rdDict P t1 t2 t3 S l ig n) :: (S, so) :: (l, lo) :: news
section
variable {prog : Program} {w : World} {A : Around} {E : Value → Shared → Prop} {s : Shared} {h₀ : Heap} {L D : Addr} {m : Str → Option Value} {news news' : List (Addr × Obj)}
theorem truthyCons {l : Addr} {v : Value} {vs : List Value} {ep : Nat} {Q : Bool → Shared → Prop} (N : News h₀ L s.heap news) (hm : (l, W.listOf (v :: vs).toArray ep) ∈ news) (hz : vs.length ≤ 1000000)
    (h : ∀ tk, Q true { s with toks := tk }) : wpAny (model prog w) A (truthy (.ref l)) Q E s := by
  refine wpAny_truthy_list (News.isList N hm) (by simp; omega) ?_
  have e : (!(v :: vs).toArray.isEmpty) = true := by simp
  rw [e]
  exact h _
theorem newSetStr_N {l : Addr} {x : Str} {t : Tok} {ep : Nat} {Q : Value → Shared → Prop} (F : Fr h₀ L s.heap m) (N : News h₀ L s.heap news) (hh : A.handled = none) (hm : (l, W.listOf [Value.str x t].toArray ep) ∈ news)
    (h : ∀ D h' (tk : Nat), Fr h₀ L h' m → News h₀ L h' ((D, set1 (ledOf w) ((PySem.strKind prog w).hash x) (.str x t)) :: news) → (∀ p ∈ news, p.1 < D) → Q (.ref D) { s with heap := h', toks := tk }) :
    wpAny (model prog w) A (call (.type "set") [.ref l]) Q E s := by
  refine call_set_str hh (News.isList N hm) fun h' tk hS hk => ?_
  have hL := F.ns.lt
  refine h s.heap.objs.size h' tk ⟨F.ns.keeps hk, fun b o e => hk b o (F.keep b o e), F.above⟩ (fun p hp => ?_) fun p hp => Heap.lt_size (N p hp).1
  rcases List.mem_cons.mp hp with rfl | hp
  · exact ⟨hS, Nat.ne_of_gt hL, Heap.get?_none_of_le (Nat.le_trans F.above (Nat.le_of_lt hL))⟩
  · exact ⟨hk _ _ (N p hp).1, (N p hp).2⟩
theorem set1_obj (led : Bool) (x : Str) (t : Tok) : Obj.SetObjOf (PySem.strKind prog w) (set1 led ((PySem.strKind prog w).hash x) (.str x t)) (fun k => decide (k = x)) 1 := by
  refine ⟨⟨rfl, rfl, rfl⟩, _, _, _, rfl, ?_, fun k => ?_, rfl, rfl⟩
  · intro e he
    have he' : e = ((PySem.strKind prog w).hash x, Value.str x t) := by simpa using he
    subst he'
    exact ⟨⟨x, strKind_is _ _ _ _, rfl⟩, rfl⟩
  · constructor
    · intro hk
      have hk' : k = x := by simpa using hk
      subst hk'
      exact ⟨_, by simp; rfl, strKind_is _ _ _ _⟩
    · rintro ⟨e, he, hk⟩
      have he' : e = ((PySem.strKind prog w).hash x, Value.str x t) := by simpa using he
      subst he'
      have : x = k := by
        have h2 : (Value.str x t).isStr k = true := hk
        simpa [Value.isStr] using h2
      simp [this]
theorem setIn1_N {S : Addr} {x y : Str} {t u : Tok} {led : Bool} {Q : Value → Shared → Prop} (N : News h₀ L s.heap news) (hm : (S, set1 led ((PySem.strKind prog w).hash x) (.str x t)) ∈ news)
    (h : ∀ tk, Q (.bool (decide (y = x))) { s with toks := tk }) : wpAny (model prog w) A (compareOp .In (.str y u) (.ref S)) Q E s := by
  obtain ⟨own, rest, rfl⟩ := List.append_of_mem hm
  exact in_sl1 (knd := PySem.strKind prog w) N (set1_obj led x t) (by show 1 < 4096; omega) (strKind_is _ _ _ _) rfl (h _)
theorem setIn0_N {S : Addr} {y : Str} {u : Tok} {led : Bool} {Q : Value → Shared → Prop} (N : News h₀ L s.heap news) (hm : (S, set0 led) ∈ news)
    (h : ∀ tk, Q (.bool false) { s with toks := tk }) : wpAny (model prog w) A (compareOp .In (.str y u) (.ref S)) Q E s := by
  obtain ⟨own, rest, rfl⟩ := List.append_of_mem hm
  exact in_sl1 (knd := PySem.strKind prog w) (k := y) N (setObjOf_fresh led) (by show 0 < 4096; omega) (strKind_is _ _ _ _) rfl (h _)
variable {knd : KeyKind prog w Str} {d : Addr} {o : Obj} {kvs : List (Str × Value)} {k : Str} {key v : Value}
theorem dictIn_none {Q : Value → Shared → Prop} (N : News h₀ L s.heap news) (hp : (d, o) ∈ news) (hd : o.IsDictOf knd kvs) (lo : (d == sysModules) = false) (hkey : knd.is k key = true) (hv : valueAt kvs k = none) (h : ∀ tk, Q (.bool false) { s with toks := tk }) :
    wpAny (model prog w) A (compareOp .In key (.ref d)) Q E s := kda_in N hp hd lo hkey false (by rw [hv]; rfl) (h _)
theorem dictIn_some {Q : Value → Shared → Prop} (N : News h₀ L s.heap news) (hp : (d, o) ∈ news) (hd : o.IsDictOf knd kvs) (lo : (d == sysModules) = false) (hkey : knd.is k key = true) (hv : valueAt kvs k = some v) (h : ∀ tk, Q (.bool true) { s with toks := tk }) :
    wpAny (model prog w) A (compareOp .In key (.ref d)) Q E s := kda_in N hp hd lo hkey true (by rw [hv]; rfl) (h _)
theorem dictItem {Q : Value → Shared → Prop} (N : News h₀ L s.heap news) (hp : (d, o) ∈ news) (hd : o.IsDictOf knd kvs) (hkey : knd.is k key = true) (hv : valueAt kvs k = some v) (h : ∀ tk, Q v { s with toks := tk }) :
    wpAny (model prog w) A (getItem (.ref d) key) Q E s := wpAny_getItem_of hkey (kda_dict N hp hd).mapOf hv (h _)
theorem joinV {l : Addr} {vs : List Value} {ys : List Str} {ep : Nat} {x : Str} {t : Tok} {Q : Value → Shared → Prop} (N : News h₀ L s.heap news) (hm : (l, W.listOf vs.toArray ep) ∈ news) (hi : StrsAre vs ys) (hsep : x.length ≤ 64) (hok : (ys.map (·.length)).sum + ys.length * 64 ≤ 16777216)
    (h : ∀ t' k, Q (.str (PySem.Txt.join x ys) t') { s with toks := k }) : wpAny (model prog w) A (call (.builtin "str.join") [.str x t, .ref l]) Q E s :=
  join_listC (News.isList N hm) (by simpa using hi) hsep hok h
theorem strsAre_take {vs : List Value} {ys : List Str} (h : StrsAre vs ys) : ∀ k, StrsAre (vs.take k) (ys.take k) := by
  induction h with
  | nil => intro k; simp; exact .nil
  | cons y t h ih =>
    intro k
    cases k with
    | zero => exact .nil
    | succ k => exact .cons y t (ih k)
theorem tjoin_len (x : Str) (ys : List Str) : (PySem.Txt.join x ys).length ≤ (ys.map (·.length)).sum + ys.length * x.length := by
  show (PySem.Builtin.Str.glued x ys).length ≤ _
  rw [StrLaws.glued_eq_join]
  exact StrLaws.join_length_le x ys
end
end Mine
end
section
open PySem PySem.W PyProof.Rows
namespace Mine
abbrev tl_ (s : Str) : List Nat := s.cps.toList
theorem str_ext {a b : Str} (h : tl_ a = tl_ b) : a = b := Str.ext' (Array.toList_inj.mp h)
theorem tl_append (a b : Str) : tl_ (a ++ b) = tl_ a ++ tl_ b := by simp [tl_, Str.cps_append]
theorem sw_iff (x y : Str) : PySem.Txt.startswith x y = true ↔ tl_ y <+: tl_ x := by
  unfold PySem.Txt.startswith
  rw [StrLaws.subAt_eq, List.drop_zero, Bool.and_eq_true, decide_eq_true_eq, beq_iff_eq]
  have e1 : y.length = (tl_ y).length := by simp [Str.length, tl_]
  have e2 : x.length = (tl_ x).length := by simp [Str.length, tl_]
  rw [e1, e2]
  constructor
  · rintro ⟨_, h2⟩
    exact List.prefix_iff_eq_take.mpr h2.symm
  · intro h
    exact ⟨by rw [Nat.zero_add]; exact h.length_le, (List.prefix_iff_eq_take.mp h).symm⟩
def enc (c : Nat) : List Str → List Nat
  | [] => []
  | w :: r => tl_ w ++ c :: enc c r
theorem cut_prefix {c : Nat} : ∀ (x y A B : List Nat), c ∉ x → c ∉ y → (x ++ c :: A <+: y ++ c :: B ↔ x = y ∧ A <+: B)
  | [], [], A, B, _, _ => by simp
  | [], y :: ys, A, B, _, hy => by
    simp only [List.mem_cons, not_or] at hy
    simp [List.cons_prefix_cons, hy.1]
  | x :: xs, [], A, B, hx, _ => by
    simp only [List.mem_cons, not_or] at hx
    simp [List.cons_prefix_cons, Ne.symm hx.1]
  | x :: xs, y :: ys, A, B, hx, hy => by
    simp only [List.mem_cons, not_or] at hx hy
    simp [List.cons_prefix_cons, cut_prefix xs ys A B hx.2 hy.2, and_assoc]
theorem enc_prefix {c : Nat} {t : List Nat} (ht : c ∉ t) : ∀ (a b : List Str), (∀ x ∈ a, c ∉ tl_ x) → (∀ x ∈ b, c ∉ tl_ x) → (enc c a <+: enc c b ++ t ↔ a <+: b)
  | [], b, _, _ => by simp [enc]
  | x :: a, [], _, _ => by
    simp only [enc, List.nil_append, List.prefix_nil, reduceCtorEq, iff_false]
    intro h
    exact ht (h.subset (by simp))
  | x :: a, y :: b, ha, hb => by
    simp only [enc, List.append_assoc, List.cons_append]
    rw [cut_prefix _ _ _ _ (ha x (.head _)) (hb y (.head _)), enc_prefix ht a b (fun z hz => ha z (.tail _ hz)) (fun z hz => hb z (.tail _ hz)), List.cons_prefix_cons]
    constructor
    · rintro ⟨h1, h2⟩; exact ⟨str_ext h1, h2⟩
    · rintro ⟨h1, h2⟩; exact ⟨by rw [h1], h2⟩
theorem tjoin (sep : Str) (l : List Str) : PySem.Txt.join sep l = Str.join sep l := StrLaws.glued_eq_join sep l
theorem join_enc (c : Nat) : ∀ (l : List Str), l ≠ [] → tl_ (PySem.Txt.join ⟨#[c]⟩ l) ++ [c] = enc c l
  | [], h => absurd rfl h
  | [x], _ => by rw [tjoin]; simp [Str.join, enc]
  | x :: y :: r, _ => by
    have ih := join_enc c (y :: r) (by simp)
    rw [tjoin] at ih ⊢
    show tl_ (x ++ ⟨#[c]⟩ ++ Str.join ⟨#[c]⟩ (y :: r)) ++ [c] = _
    rw [tl_append, tl_append, List.append_assoc, ih]
    simp [enc, tl_]
theorem enc_inj {c : Nat} {a b : List Str} (ha : ∀ x ∈ a, c ∉ tl_ x) (hb : ∀ x ∈ b, c ∉ tl_ x) (h : enc c a = enc c b) : a = b := by
  have h1 := (enc_prefix (t := []) (c := c) (by simp) a b ha hb).mp (by rw [h]; simp)
  have h2 := (enc_prefix (t := []) (c := c) (by simp) b a hb ha).mp (by rw [h]; simp)
  exact List.IsPrefix.eq_of_length h1 (Nat.le_antisymm h1.length_le h2.length_le)
theorem join_inj {c : Nat} {a b : List Str} (ha : ∀ x ∈ a, c ∉ tl_ x ∧ tl_ x ≠ []) (hb : ∀ x ∈ b, c ∉ tl_ x ∧ tl_ x ≠ []) (h : PySem.Txt.join ⟨#[c]⟩ a = PySem.Txt.join ⟨#[c]⟩ b) : a = b := by
  have nil : ∀ (l : List Str), (∀ x ∈ l, c ∉ tl_ x ∧ tl_ x ≠ []) → tl_ (PySem.Txt.join ⟨#[c]⟩ []) = tl_ (PySem.Txt.join ⟨#[c]⟩ l) → l = [] := by
    intro l hl e
    cases l with
    | nil => rfl
    | cons x r =>
      exfalso
      have h1 := join_enc c (x :: r) (by simp)
      rw [← e, tjoin] at h1
      have h2 : [c] = tl_ x ++ c :: enc c r := by simpa [Str.join, tl_, Str.empty, enc] using h1
      have h3 := (hl x (.head _)).2
      cases hx : tl_ x with
      | nil => exact h3 hx
      | cons y ys =>
        rw [hx] at h2
        simp at h2
  by_cases h1 : a = []
  · subst h1; exact (nil b hb (by rw [h])).symm
  · by_cases h2 : b = []
    · subst h2; exact nil a ha (by rw [h])
    · refine enc_inj (c := c) (fun x hx => (ha x hx).1) (fun x hx => (hb x hx).1) ?_
      rw [← join_enc c a h1, ← join_enc c b h2, h]
theorem dot_is : Str.ofString "." = ⟨#[46]⟩ := by decide +kernel
theorem slash_is : Str.ofString "/" = ⟨#[47]⟩ := by decide +kernel
theorem verdM_iff {c r : List Str} (hc : c ≠ []) (fc : ∀ x ∈ c, 46 ∉ tl_ x ∧ tl_ x ≠ []) (fr : ∀ x ∈ r, 46 ∉ tl_ x ∧ tl_ x ≠ []) : verdM (PySem.Txt.join (Str.ofString ".") c) (PySem.Txt.join (Str.ofString ".") r) = decide (c <+: r) := by
  unfold verdM
  rw [dot_is]
  rw [Bool.eq_iff_iff, Bool.or_eq_true, decide_eq_true_eq, decide_eq_true_eq, sw_iff, tl_append, join_enc _ _ hc]
  by_cases hr : r = []
  · subst hr
    constructor
    · rintro (h | h)
      · exact absurd (join_inj fr fc h).symm hc
      · rw [tjoin] at h
        have h1 : enc 46 c = [] := by simpa [Str.join, tl_, Str.empty] using h
        cases c with
        | nil => exact absurd rfl hc
        | cons x c => simp [enc] at h1
    · intro h
      exact absurd (List.prefix_nil.mp h) hc
  · have e := enc_prefix (c := 46) (t := []) (by simp) c r (fun x hx => (fc x hx).1) (fun x hx => (fr x hx).1)
    rw [List.append_nil] at e
    rw [← e, ← join_enc _ r hr]
    constructor
    · rintro (h | h)
      · rw [h, ← join_enc _ c hc]; exact List.prefix_refl _
      · exact List.IsPrefix.trans h (List.prefix_append _ _)
    · intro h
      rcases List.prefix_concat_iff.mp h with h | h
      · left
        rw [← join_enc _ c hc] at h
        exact (str_ext (List.append_cancel_right h)).symm
      · exact .inr h
theorem mpy_is : tl_ (Str.ofString "/m.py") = [47, 109, 46, 112, 121] := by decide +kernel
theorem verdF_iff {c r : List Str} (hc : c ≠ []) (fc : ∀ x ∈ c, 47 ∉ tl_ x ∧ tl_ x ≠ []) (fr : ∀ x ∈ r, 47 ∉ tl_ x ∧ tl_ x ≠ []) :
    verdF (Str.ofString "/" ++ PySem.Txt.join (Str.ofString "/") c) (Str.ofString "/" ++ PySem.Txt.join (Str.ofString "/") r ++ Str.ofString "/m.py") = decide (c <+: r) := by
  unfold verdF
  rw [Bool.eq_iff_iff, decide_eq_true_eq, sw_iff, tl_append, tl_append, tl_append, tl_append, mpy_is, slash_is]
  rw [List.append_assoc, List.append_assoc, List.prefix_append_right_inj]
  show tl_ (PySem.Txt.join ⟨#[47]⟩ c) ++ [47] <+: _ ↔ _
  rw [join_enc _ _ hc]
  by_cases hr : r = []
  · subst hr
    constructor
    · intro h
      exfalso
      rw [tjoin] at h
      cases c with
      | nil => exact hc rfl
      | cons x c =>
        obtain ⟨h1, h2⟩ := fc x (.head _)
        cases hx : tl_ x with
        | nil => exact h2 hx
        | cons y ys =>
          rw [hx] at h1
          simp only [enc, hx, Str.join, tl_, Str.empty, List.nil_append, List.cons_append, List.cons_prefix_cons] at h
          exact h1 (by rw [h.1]; exact .head _)
    · intro h
      exact absurd (List.prefix_nil.mp h) hc
  · have e : tl_ (PySem.Txt.join ⟨#[47]⟩ r) ++ [47, 109, 46, 112, 121] = enc 47 r ++ [109, 46, 112, 121] := by
      rw [← join_enc _ r hr]; simp
    rw [e]
    exact enc_prefix (by decide) c r (fun x hx => (fc x hx).1) (fun x hx => (fr x hx).1)
theorem split_join {c : Nat} {l : List Str} (hl : l ≠ []) (hf : ∀ x ∈ l, c ∉ tl_ x) : PySem.Txt.split (PySem.Txt.join ⟨#[c]⟩ l) ⟨#[c]⟩ = l := by
  have h1 := StrLaws.join_split (PySem.Txt.join ⟨#[c]⟩ l) ⟨#[c]⟩
  have h2 := StrLaws.split_free (PySem.Txt.join ⟨#[c]⟩ l) c
  generalize hs : PySem.Txt.split (PySem.Txt.join ⟨#[c]⟩ l) ⟨#[c]⟩ = q at *
  have hq : q ≠ [] := by
    intro e
    subst e
    unfold PySem.Txt.split at hs
    split at hs
    · cases hs
    · split at hs
      · cases hs
      · simp [Builtin.Str.partsBetween] at hs
  refine enc_inj (c := c) h2 hf ?_
  rw [← join_enc c l hl, ← join_enc c q hq, tjoin _ q, h1]
end Mine
end
section
open PySem PySem.W PyProof.Rows
set_option maxRecDepth 100000
set_option maxHeartbeats 8000000
namespace Mine
section
variable {prog : Program} {w : World} {A : Around} {E : Value → Shared → Prop} {s : Shared} {env : Env} {h₀ : Heap} {x : Str} {body : List Stmt} {Q : Flow → Shared → Prop}
theorem iterRng {r : Addr} {a b : Int} {t u v : Tok} {n : Nat} {m : Str → Option Value} {news : List (Addr × Obj)} (J : Nat → (Str → Option Value) → List (Addr × Obj) → Prop)
    (hh : A.handled = none) (F : Fr h₀ env.locals s.heap m) (N : News h₀ env.locals s.heap news) (hr : IsRange s.heap r a b 1 t u v) (hsm : Builtin.Range.small a b 1 = true) (hn : Builtin.Range.rangeSize a b 1 = ((n : Nat) : Int))
    (h0 : J 0 m news)
    (turn : ∀ I i t m₁ news₁ it h tk, i < n → J i m₁ news₁ → (∀ p ∈ news₁, p.1 ≠ I) → Fr h₀ env.locals h (fun y => if y = x then some (.int (a + (i : Int)) t) else m₁ y) → News h₀ env.locals h ((I, it) :: news₁) →
      wpAny (model prog w) A (execs body env) (MTurn h₀ env.locals I it (J (i + 1)) { s with heap := h, toks := tk } Q) E { s with heap := h, toks := tk })
    (done : ∀ h' tk m' news', Fr h₀ env.locals h' m' → News h₀ env.locals h' news' → J n m' news' → Q .next { s with heap := h', toks := tk }) :
    wpAny (model prog w) A (pyIter (.ref r)) (fun it s₂ => LoopAtV prog w A h₀ env x body Q E it s₂) E s := by
  refine wpAny_pyIter_range hr hsm ?_
  refine iterCore (rest := []) (fun _ => True) (LCg.range_walks (I := s.heap.objs.size) hh a n) ?_ ?_ ?_ ?_ ?_ (F.push _) (fun p hp => ⟨Heap.get?_push_of_some _ (N p hp).1, (N p hp).2⟩) (fun p hp => Nat.ne_of_lt (Heap.lt_size (N p hp).1))
    (by show IsRangeIter _ _ _ _ _; rw [hn]; simpa using Heap.get?_push_size _ rfl) J h0 (fun i m' n' hj q hq => nomatch hq) ?_ ?_
  · intro b hb
    rcases List.mem_cons.mp hb with e | hb
    · exact .inl e
    · cases hb
  · exact fun e => absurd F.ns.lt (e ▸ Nat.lt_irrefl _)
  · exact next_is_new F
  · intro hb
    rcases List.mem_cons.mp hb with e | hb
    · exact absurd F.ns.lt (e ▸ Nat.lt_irrefl _)
    · cases hb
  · rintro i h hst
    exact ⟨_, hst, trivial⟩
  · rintro i v m₁ news₁ it h tk hi ⟨t, rfl⟩ hj _ hn F₁ N₁
    exact turn _ i t m₁ news₁ it h tk hi hj hn F₁ N₁
  · intro h' tk m' news' F' N' hj
    exact done h' tk m' news' F' N' hj
end
abbrev CO := Nat × List Value × Nat
abbrev coObj (c : CO) : Addr × Obj := (c.1, W.listOf c.2.1.toArray c.2.2)
abbrev coRef (c : CO) : Value := .ref c.1
def IntsOk {α : Type} (f : α → List Int) : List CO → List α → Prop
  | [], [] => True
  | c :: r, n :: k => IntsAre c.2.1 (f n) ∧ IntsOk f r k
  | _, _ => False
theorem IntsOk.snoc {α : Type} {f : α → List Int} {c : CO} {n : α} (h : IntsAre c.2.1 (f n)) : ∀ {cs : List CO} {kn : List α}, IntsOk f cs kn → IntsOk f (cs ++ [c]) (kn ++ [n])
  | [], [], _ => ⟨h, trivial⟩
  | _ :: _, _ :: _, x => ⟨x.1, IntsOk.snoc h x.2⟩
theorem IntsOk.get {α : Type} {f : α → List Int} : ∀ {cs : List CO} {kn : List α}, IntsOk f cs kn → ∀ {i : Nat} {n : α}, kn[i]? = some n → ∃ c, cs[i]? = some c ∧ IntsAre c.2.1 (f n)
  | [], [], _, i, n, h => by simp at h
  | c :: _, m :: _, x, 0, n, h => by
    have : m = n := by simpa using h
    exact ⟨c, rfl, this ▸ x.1⟩
  | _ :: _, _ :: _, x, i + 1, n, h => by
    obtain ⟨c, a, b⟩ := IntsOk.get x.2 (i := i) (n := n) (by simpa using h)
    exact ⟨c, by simpa using a, b⟩
theorem TabS.mems {tl : List (Addr × Obj)} (h : TabS tl) : (∃ ps, (37, tabObj ps) ∈ tl) ∧ (∃ ps, (44, tabObj ps) ∈ tl) := by
  obtain ⟨a, b, rfl, hA, hB⟩ := h
  obtain ⟨p, hp⟩ := hA.at
  obtain ⟨q, hq⟩ := hB.at
  exact ⟨⟨p, List.mem_append_left _ hp⟩, ⟨q, List.mem_append_right _ hq⟩⟩
theorem preOkCo (cs : List CO) : PreOk (cs.map coObj) := fun p hp => by
  obtain ⟨c, _, rfl⟩ := List.mem_map.mp hp
  exact .inl (nt2 rfl)
end Mine
end
section
open PySem PySem.W PyProof.Rows
set_option maxRecDepth 100000
set_option maxHeartbeats 8000000
namespace Mine
local macro_rules | `(tactic| k_lt $h:ident) => `(tactic| ((have lAll := $h); (replace $h := allLt_of $h); simp only [AllLt, and_true] at $h:ident))
local macro_rules | `(tactic| walk_at "mine sub") => `(tactic| (intro pS hpS; first | exact hpS | exact List.mem_append_left _ hpS | exact List.mem_append_right _ hpS | (repeat (first | exact hpS | exact List.mem_append_left _ hpS | exact List.mem_append_right _ hpS | refine List.Mem.tail _ ?_))))
local macro_rules | `(tactic| walk_at "mine nf") => `(tactic| first | exact ntSeq rfl | exact ntDict rfl | exact ntOf (cellNF (by assumption)) | exact ntIter (by assumption) | exact ntRange (by assumption))
local macro_rules | `(tactic| walk_at "mine preok") => `(tactic| first | assumption | exact PreOk.nil | (refine PreOk.cons ?pokA ?pokB; (case pokA => first | exact nt2 rfl | exact nt1 (cellNF (by assumption)) | exact nt2 (by assumption)); (case pokB => walk_at "mine preok")) | (refine' PreOk.consA ?pokC ?pokD; (case pokC => first | assumption | (refine ⟨?_, ?_⟩ <;> omega)); (case pokD => walk_at "mine preok")))
local macro_rules | `(tactic| walk_at "mine sub2") => `(tactic| first | exact (fun _ h => h) | (refine' cons_sub ?sbA ?sbB; (case sbA => k_mem); (case sbB => walk_at "mine sub2")) | (refine' tail_sub ?stA; (case stA => walk_at "mine sub2")))
local macro_rules | `(tactic| walk_at "mine grow") => `(tactic| first | assumption | exact Grow.refl _ _ | (refine' Grow.sub ?gwA ?gwB; (case gwA => assumption); (case gwB => walk_at "mine sub2")) | (refine' Grow.trans ?gwC ?gwD; (case gwC => assumption); (case gwD => walk_at "mine grow")))
local macro_rules | `(tactic| k_all) => `(tactic| first | assumption | exact ltNe (by assumption) (by omega) | exact ltNeL (by assumption) (by omega) | (refine' ltSub ?lsA ?lsB; (case lsA => assumption); (case lsB => walk_at "mine sub")) | (refine' neSub ?lsA ?lsB; (case lsA => assumption); (case lsB => walk_at "mine sub")) | (refine' TabS.ne ?tsA ?tsB ?tsC ?tsD ?tsE; (case tsA => assumption); (case tsB => assumption); (case tsC => k_mem); (case tsD => walk_at "mine sub"); (case tsE => walk_at "mine nf")) | (refine appNe ?apA ?apB; (case apA => k_all); (case apB => k_all)))
local macro_rules | `(tactic| k_ne) => `(tactic| (refine neN ?_; (try dsimp only); first | with_reducible assumption | (refine Ne.symm ?_; with_reducible assumption) | lia | omega))
local macro_rules | `(tactic| walk_at "ao") => `(tactic| first | assumption | omega | decide | (simp; done) | (simp; omega))
local macro_rules | `(tactic| walk_at "cc") => `(tactic| ((all_goals (try first | ((with_reducible show News _ _ _ _); k_asm) | ((with_reducible show Fr _ _ _ _); k_asm))); (all_goals (try first | ((with_reducible refine propN ?_); with_reducible assumption) | (with_reducible rfl) | ((with_reducible refine roomN ?_); ktr_room) | ((with_reducible refine unitN ?_); ktr_units) | ((with_reducible refine preN ?_); walk_at "mine preok") | ((with_reducible refine memN ?_); k_mem) | ((with_reducible show Upd _ _ _ _ _); k_upd) | ((with_reducible refine ltA ?_); walk_at "ao") | ((with_reducible refine leA ?_); walk_at "ao") | ((with_reducible refine neA ?_); walk_at "ao") | ((with_reducible refine eqA ?_); first | rfl | omega | decide))); (all_goals refine' propN ?_)))
local macro_rules | `(tactic| walk_at "il") => `(tactic| (intros; rename_i l1; (try k_lt l1); (try k_sweep)))
local macro_rules | `(tactic| walk_at "binaryOp RShift int int") => `(tactic| (refine rshift_int ?rs1 ?_; (case rs1 => first | assumption | omega)))
local macro_rules | `(tactic| walk_at "binaryOp LShift int int") => `(tactic| (refine lshift_int_small ?ls1 ?ls2 ?ls3 ?_; (case ls1 => first | assumption | omega); (case ls2 => first | assumption | omega); (case ls3 => first | assumption | omega)))
local macro_rules | `(tactic| walk_at "call builtin:list.append") => `(tactic| (k_here; (with_reducible show wpAny _ _ (call (Value.builtin _) [Value.ref _, _]) _ _ _); k_dflt (refine' appendV _ _ _ _ ?_; walk_at "cc"); intro h' F' N'; (try k_sweep)))
local macro_rules | `(tactic| walk_at "call builtin:list.reverse") => `(tactic| (k_here; (with_reducible show wpAny _ _ (call (Value.builtin _) [Value.ref _]) _ _ _); k_dflt (refine' reverseV _ _ _ _ ?_; walk_at "cc"); intro h' F' N'; (try k_sweep)))
section
open PySem PySem.W PyProof.Rows
set_option maxRecDepth 100000
set_option maxHeartbeats 8000000
theorem fill0 : PySem.Challenge.rw_pg0172_01 = PySem.Challenge.rw_pg0172_01 ∧ Mine.hd.heap_1 = Mine.hd.heap_1 := by
  w_top off
  k_fill
  exact ⟨rfl, rfl⟩

section
variable {w : World} {p : Program} {loose : List Str} {mean : ExcName → Option Value} {mg mb : Str → Option Value}
  {dp un : Nat} {gd : Option (List Code)} {cn : Str} {cs : Scope} {a : Addr} {ccd : Value} {cl : List (Str × Addr)} {outer : List Env} {A₀ : Around} {base h₀ : Heap} {L : Addr} {m : Str → Option Value} {s : Shared} {Q E : Value → Shared → Prop} {news : List (Addr × Obj)}

theorem c_div2n1n (B : Below A₀ base outer h₀) (F : Fr h₀ L s.heap m) (X : (Mine.hd.heap_1 w.params).In h₀) (N : News h₀ L s.heap news) (T : Top p loose mean mg mb h₀) (hk : cs.kind = .function)
    (hd : dp + 1 < recursionLimit) (hu : un + 8 < cLine) (x y n : Int) (tx ty tn : Tok) (hy : 0 < y) (hy2 : y < 1073741824) (hn : (Builtin.Int.intBits x : Int) - n ≤ 4000)
    (ret : ∀ (h' : Heap) (tk' t1 t2 : Nat) (r : Addr), Fr h₀ L h' m → News h₀ L h' ((r, { cls := .type "tuple", data := .seq #[.int (x.fdiv y) t1, .int (x.fmod y) t2] }) :: news) → (∀ p ∈ news, p.1 < r) → Q (.ref r) { s with heap := h', toks := tk' }) :
    wpAny (model PySem.Challenge.rw_pg0172_01.row.prog w) (ktrTop dp un gd cn cs L a ccd cl outer) (call (.ref 28) [.int x tx, .int y ty, .int n tn]) Q E s := by
  refine wpAny_call ?_
  k_dflt cell_enter
  k_steps
  refine' ret _ _ _ _ _ ?r1 ?r2 ?r3
  case r1 => assumption
  case r2 => assumption
  case r3 => exact fun p hp => Heap.lt_size (News.sub (by assumption) (fun _ h => h) p hp).1



local macro_rules | `(tactic| walk_at "exec FunctionDef") => `(tactic| refine Stop.to ?_)
theorem c_int2digits {pre tl : List (Addr × Obj)} (B : Below A₀ base outer h₀) (F : Fr h₀ L s.heap m) (X : (Mine.hd.heap_1 w.params).In h₀) (N : News h₀ L s.heap (pre ++ tl)) (T : Top p loose mean mg mb h₀) (hk : cs.kind = .function)
    (C1 : CodeHd base 41 37) (TS : TabS tl) (hpre : PreOk pre)
    (hd : dp + 100 < recursionLimit) (hu : un + 400 < cLine) (x n : Int) (tx tn : Tok) (hx : 0 ≤ x) (hx2 : x < 2 ^ 62) (hn : 0 < n) (hn2 : n < 64)
    (ret : ∀ (h' : Heap) (tk' : Nat) (r : Addr) (vs : List Value) (tl' : List (Addr × Obj)), Fr h₀ L h' m → TabS tl' → Grow pre tl tl' → News h₀ L h' ((r, W.listOf vs.toArray 0) :: (pre ++ tl')) → IntsAre vs (digI (2 ^ n.toNat) (ndig x n) x) → Q (.ref r) { s with heap := h', toks := tk' }) :
    wpAny (model PySem.Challenge.rw_pg0172_01.row.prog w) (ktrTop dp un gd cn cs L a ccd cl outer) (call (.ref 42) [.int x tx, .int n tn]) Q E s := by
  obtain ⟨hK0, hK1, hK2⟩ := ndig_facts hx hx2 hn
  refine wpAny_call ?_
  k_dflt (refine' code_defC ?k1 ?k2 ?k3 ?k4 ?k5 ?kA ?kF ?kK ?k6 ?k7 ?k8 ?k9 ?kB ?kD ?_ ?c2 ?c3 ?c4; (case kA => exact rfl); (case kF => exact rfl); (case kK => assumption); (case k1 => k_asm); (case k2 => k_asm); (case k3 => k_asm); (case k4 => k_asm); (case k5 => k_asm); (case k6 => k_is); (case k7 => k_is); (case k8 => ktr_room); (case k9 => exact BindsTo.of_eq rfl); (case kB => exact rfl); (case kD => decide +kernel); (case c2 => exact rfl); (case c3 => exact rfl); (case c4 => exact rfl); k_whole; intro g' L' h' tk' cells' FG' F' N' Y' B' X' T' l1; (try k_lt l1); k_cells Y'; (try simp only [List.cons_append, List.nil_append] at N'); (try dsimp only); (try k_lift B'); (try k_fold))
  k_steps
  unfold Stop
  (k_here; kn_here; k_dflt (refine' nestDef_K ?d0Y1 ?k0Y1 ?a0Y1 ?_; (case d0Y1 => exact rfl); (case k0Y1 => exact rfl); (case a0Y1 => exact rfl)); (k_dflt (refine' nestA (pre := _ :: _ :: _ :: _ :: _ :: _) ?FY1 ?NY1 ?TY1 ?CY1 ?cdY1 ?TSY1 ?lnY1 ?colY1 ?qY1 ?poY1 ?clY1 ?_; (case FY1 => k_asm); (case NY1 => k_asm); (case TY1 => k_asm); (case CY1 => kn_code); (case cdY1 => exact rfl); (case TSY1 => assumption); (case lnY1 => exact rfl); (case colY1 => exact rfl); (case qY1 => rfl); (case poY1 => walk_at "mine preok"); (case clY1 => exact rfl); k_whole; intro f' c' tl' ct' dc' h' tk' F' TS' G' CF' N' l1; (try simp only [List.cons_append] at N' l1); (try k_lt l1))))
  k_steps
  · rename News _ _ _ _ => NN
    rename Fr _ _ _ _ => FF
    rename CodeFor _ _ _ => CF
    rename TabS _ => TT
    obtain ⟨fa, fo, da, rr, rfl, hfo, rfl, hrr, N2⟩ := cap3 NN
    have inner : ∀ (k : Nat) (dp un : Nat) (gd : Option (List Code)) (cn : Str) (cs : Scope) (a : Addr) (ccd : Value) (cl : List (Str × Addr)) (outer : List Env) (A₀ : Around) (h₀ : Heap) (L : Addr) (m : Str → Option Value) (s : Shared) (Q E : Value → Shared → Prop)
        (lo hi y : Int) (tlo thi ty : Tok) (vs : List Value) (ns : List Int),
        Below A₀ base outer h₀ → Fr h₀ L s.heap m → (Mine.hd.heap_1 w.params).In h₀ → Top p loose mean mg mb h₀ → cs.kind = .function → dp + k + 1 < recursionLimit → un + 4 * k + 8 < cLine →
        0 ≤ lo → lo < hi → hi - lo ≤ k → hi ≤ ns.length → ns.length ≤ 62 → 0 ≤ y → y < 2 ^ 62 → y < (2 ^ n.toNat) ^ (hi - lo).toNat → IntsAre vs ns →
        News h₀ L s.heap ((fa, fo) :: (da, W.listOf vs.toArray 0) :: rr) →
        (∀ h' tk' vs', Fr h₀ L h' m → News h₀ L h' ((fa, fo) :: (da, W.listOf vs'.toArray 0) :: rr) → IntsAre vs' (ns.take lo.toNat ++ digI (2 ^ n.toNat) (hi - lo).toNat y ++ ns.drop hi.toNat) → Q .none { s with heap := h', toks := tk' }) →
        wpAny (model PySem.Challenge.rw_pg0172_01.row.prog w) (ktrTop dp un gd cn cs L a ccd cl outer) (call (.ref fa) [.int y ty, .int lo tlo, .int hi thi]) Q E s := by
      subst hfo hrr
      intro k
      induction k with
      | zero => intros; omega
      | succ k ih =>
        intro dp un gd cn cs a ccd cl outer A₀ h₀ L m s Q E lo hi y tlo thi ty vs ns B F X T hk hd hu h0 h1 h2 h3 h4 h5 h7 h6 hI N ret
        have hCR : s.heap.CodeRec (.ref _) qA := CodeFor.rec CF N (by walk_at "mine sub")
        have e1 : (lo + hi).fdiv (2 ^ Int.toNat 1) = (lo + hi) / 2 := fdiv2 _
        have hs0 : 0 ≤ ((lo + hi).fdiv (2 ^ Int.toNat 1) - lo) * n := by rw [e1]; exact Int.mul_nonneg (by omega) (by omega)
        have hs1 : ((lo + hi).fdiv (2 ^ Int.toNat 1) - lo) * n ≤ 1000000 := by
          rw [e1]
          have : ((lo + hi) / 2 - lo) * n ≤ 62 * 64 := Int.mul_le_mul (by omega) (by omega) (by omega) (by omega)
          omega
        have hs2 : (y.fdiv (2 ^ (((lo + hi).fdiv (2 ^ Int.toNat 1) - lo) * n).toNat)).natAbs < 2 ^ 64 := fdiv_pow_lt (B := 2 ^ 64) h5 (by omega)
        refine wpAny_call ?_
        (refine' code_nest ?k1 ?k2 ?k3 ?k4 ?k5 ?kA ?kF ?kK ?k6 ?k7 ?k8 ?k9 ?kB ?_ ?c2 ?c3 ?c4 ?c5; (case kA => exact rfl); (case kF => exact rfl); (case kK => assumption); (case k1 => k_asm); (case k2 => k_asm); (case k3 => k_asm); (case k4 => k_asm); (case k5 => k_asm); (case k6 => k_mem); (case k7 => exact hCR); (case k8 => ktr_room); (case k9 => exact BindsTo.of_eq rfl); (case c5 => decide); (case kB => exact locs rfl); (case c2 => exact rfl); (case c3 => exact rfl); (case c4 => exact rfl); k_whole; intro g' L' h' FG' F' N' B' X' T'; (try dsimp only); (try k_lift B'); (try k_fold))
        k_steps
        · have e2 : hi.toNat = lo.toNat + 1 := by omega
          have e3 : (hi - lo).toNat = 1 := by omega
          rw [e3] at h6
          refine' ret _ _ _ ?r1 ?r2 ?_
          case r1 => assumption
          case r2 => assumption
          rw [e3, e2, set_one (by omega) h5 h6 |>.symm]
          exact ints_set hI _
        · have hb : (0 : Int) < 2 ^ n.toNat := Int.pow_pos (by decide)
          have hpp : (0 : Int) < (2 ^ n.toNat) ^ ((lo + hi) / 2 - lo).toNat := Int.pow_pos hb
          have eS : (2:Int) ^ (((lo + hi).fdiv (2 ^ Int.toNat 1) - lo) * n).toNat = (2 ^ n.toNat) ^ ((lo + hi) / 2 - lo).toNat := by rw [e1, shift_toNat (by omega) (by omega), Int.pow_mul]
          have ex : Builtin.bitXor y (y.fdiv (2 ^ (((lo + hi).fdiv (2 ^ Int.toNat 1) - lo) * n).toNat) * 2 ^ (((lo + hi).fdiv (2 ^ Int.toNat 1) - lo) * n).toNat) = y % (2 ^ n.toNat) ^ ((lo + hi) / 2 - lo).toNat := by rw [xor_low h5, eS]
          have ed : y.fdiv (2 ^ (((lo + hi).fdiv (2 ^ Int.toNat 1) - lo) * n).toNat) = y / (2 ^ n.toNat) ^ ((lo + hi) / 2 - lo).toNat := by rw [eS, Int.fdiv_eq_ediv_of_nonneg _ (Int.le_of_lt hpp)]
          have e4 : (hi - lo).toNat = ((lo + hi) / 2 - lo).toNat + (hi - (lo + hi) / 2).toNat := by omega
          rw [e4] at h6
          obtain ⟨g1, g2, g3, g4, g5, g6⟩ := halves hb h5 h6
          refine' ih _ _ _ _ _ _ _ _ _ _ _ _ _ _ _ _ lo ((lo + hi).fdiv (2 ^ Int.toNat 1)) _ _ _ _ vs ns ?B ?F ?X ?T ?hk ?hd ?hu ?h0 ?h1 ?h2 ?h3 ?h4 ?h5 ?h7 ?h6 ?hI ?N ?_
          case B => k_asm
          case F => k_asm
          case X => k_asm
          case T => k_asm
          case hk => rfl
          case hd => ktr_room
          case hu => ktr_units
          case h0 => exact h0
          case h1 => rw [e1]; omega
          case h2 => rw [e1]; omega
          case h3 => rw [e1]; omega
          case h4 => exact h4
          case h5 => rw [ex]; exact g1
          case h7 => rw [ex]; omega
          case h6 => rw [ex, e1]; exact g2
          case hI => exact hI
          case N => k_asm
          intro h2' tk2 vs2 F2 N2 I2
          rw [ex, e1] at I2
          k_steps
          · refine' ih _ _ _ _ _ _ _ _ _ _ _ _ _ _ _ _ ((lo + hi).fdiv (2 ^ Int.toNat 1)) hi _ _ _ _ vs2 _ ?B ?F ?X ?T ?hk ?hd ?hu ?h0 ?h1 ?h2 ?h3 ?h4 ?h5 ?h7 ?h6 ?hI ?N ?_
            case hI => exact I2
            case B => k_asm
            case F => k_asm
            case X => k_asm
            case T => k_asm
            case hk => rfl
            case hd => ktr_room
            case hu => ktr_units
            case h0 => rw [e1]; omega
            case h1 => rw [e1]; omega
            case h2 => rw [e1]; omega
            case h3 => simp only [List.length_append, List.length_take, List.length_drop, digI_length]; omega
            case h4 => simp only [List.length_append, List.length_take, List.length_drop, digI_length]; omega
            case h5 => rw [ed]; exact g3
            case h7 => rw [ed]; omega
            case h6 => rw [ed, e1]; exact g4
            case N => k_asm
            intro h3' tk3 vs3 F3 N3 I3
            rw [ed, e1] at I3
            k_steps
            refine' ret _ _ _ ?r1 ?r2 ?_
            case r1 => assumption
            case r2 => assumption
            have e5 : ((lo + hi) / 2).toNat = lo.toNat + ((lo + hi) / 2 - lo).toNat := by omega
            have e6 : hi.toNat = lo.toNat + ((lo + hi) / 2 - lo).toNat + (hi - (lo + hi) / 2).toNat := by omega
            rw [e5, e6, put_two hb (by omega)] at I3
            rw [e4, e6]
            exact I3
    have eN : ndig x n = (((Builtin.Int.intBits x : Int) + n - 1).fdiv n).toNat := rfl
    have hz := (show (List.replicate (((Builtin.Int.intBits x : Int) + n - 1).fdiv n).toNat [(0 : Int)]).flatten.length = (((Builtin.Int.intBits x : Int) + n - 1).fdiv n).toNat by rw [KM.len_rep]; simp)
    have hz2 : ndig x n ≠ 0 := fun e => by
      rw [e, Int.pow_zero] at hK2
      omega
    subst hrr
    refine' inner 62 _ _ _ _ _ _ _ _ _ _ _ _ _ _ _ _ 0 _ _ _ _ _ _ (List.replicate (((Builtin.Int.intBits x : Int) + n - 1).fdiv n).toNat [(0 : Int)]).flatten ?B ?F ?X ?T ?hk ?hd ?hu ?h0 ?h1 ?h2 ?h3 ?h4 ?h5 ?h7 ?h6 ?hI ?N ?_
    case hI => assumption
    case B => k_asm
    case F => k_asm
    case X => k_asm
    case T => k_asm
    case hk => rfl
    case hd => ktr_room
    case hu => ktr_units
    case h0 => omega
    case h1 => omega
    case h2 => omega
    case h3 => omega
    case h4 => omega
    case h5 => exact hx
    case h7 => exact hx2
    case h6 =>
      refine Int.lt_of_lt_of_le hK2 (Int.le_of_eq ?_)
      congr 1
      omega
    case N => k_asm
    intro h3' tk3 vs3 F3 N3 I3
    k_steps
    refine' ret _ _ _ _ _ ?r1 ?r2 ?rg ?r3 ?_
    case r1 => assumption
    case r2 => assumption
    case rg => walk_at "mine grow"
    case r3 => exact News.sub (by assumption) (by walk_at "mine sub2")
    exact fin_put hz (by omega) I3
  · have hx0 : x = 0 := by omega
    have eK : (((Builtin.Int.intBits x : Int) + n - 1).fdiv n).toNat = 0 := by rw [hx0, ndig_zero hn]; rfl
    have eK2 : ndig x n = 0 := eK
    refine' ret _ _ _ _ _ ?r1 ?r2 ?rg ?r3 ?_
    case r1 => assumption
    case r2 => assumption
    case rg => walk_at "mine grow"
    case r3 => exact News.sub (by assumption) (by walk_at "mine sub2")
    rw [eK, eK2]
    exact .nil
end
end
section
open PySem PySem.W PyProof.Rows
set_option maxRecDepth 100000
set_option maxHeartbeats 8000000
theorem fill1 : PySem.Challenge.rw_pg0172_01 = PySem.Challenge.rw_pg0172_01 ∧ Mine.hd.heap_1 = Mine.hd.heap_1 := by
  w_top off
  k_fill
  exact ⟨rfl, rfl⟩

section
variable {w : World} {p : Program} {loose : List Str} {mean : ExcName → Option Value} {mg mb : Str → Option Value}
  {dp un : Nat} {gd : Option (List Code)} {cn : Str} {cs : Scope} {a : Addr} {ccd : Value} {cl : List (Str × Addr)} {outer : List Env} {A₀ : Around} {base h₀ : Heap} {L : Addr} {m : Str → Option Value} {s : Shared} {Q E : Value → Shared → Prop} {news : List (Addr × Obj)}


local macro_rules | `(tactic| walk_at "exec FunctionDef") => `(tactic| refine Stop.to ?_)

theorem c_digits2int {pre tl : List (Addr × Obj)} {l ep : Nat} {vs : List Value} {ns : List Int} (B : Below A₀ base outer h₀) (F : Fr h₀ L s.heap m) (X : (Mine.hd.heap_1 w.params).In h₀) (N : News h₀ L s.heap ((l, W.listOf vs.toArray ep) :: (pre ++ tl))) (T : Top p loose mean mg mb h₀) (hk : cs.kind = .function)
    (C2 : CodeHd base 48 44) (TS : TabS tl) (hpre : PreOk pre) (hI : IntsAre vs ns)
    (hd : dp + 100 < recursionLimit) (hu : un + 400 < cLine) (n : Int) (tn : Tok) (hn : 0 < n) (hn2 : n < 64) (hlen : ns.length ≤ 62) (hpos : ∀ d ∈ ns, 0 ≤ d) (hval : undig (2 ^ n.toNat) ns < 2 ^ 62)
    (ret : ∀ (h' : Heap) (tk' t : Nat) (tl' : List (Addr × Obj)), Fr h₀ L h' m → TabS tl' → Grow pre tl tl' → News h₀ L h' ((l, W.listOf vs.toArray ep) :: (pre ++ tl')) → Q (.int (undig (2 ^ n.toNat) ns) t) { s with heap := h', toks := tk' }) :
    wpAny (model PySem.Challenge.rw_pg0172_01.row.prog w) (ktrTop dp un gd cn cs L a ccd cl outer) (call (.ref 49) [.ref l, .int n tn]) Q E s := by
  refine wpAny_call ?_
  k_dflt (refine' code_defC ?k1 ?k2 ?k3 ?k4 ?k5 ?kA ?kF ?kK ?k6 ?k7 ?k8 ?k9 ?kB ?kD ?_ ?c2 ?c3 ?c4; (case kA => exact rfl); (case kF => exact rfl); (case kK => assumption); (case k1 => k_asm); (case k2 => k_asm); (case k3 => k_asm); (case k4 => k_asm); (case k5 => k_asm); (case k6 => k_is); (case k7 => k_is); (case k8 => ktr_room); (case k9 => exact BindsTo.of_eq rfl); (case kB => exact rfl); (case kD => decide +kernel); (case c2 => exact rfl); (case c3 => exact rfl); (case c4 => exact rfl); k_whole; intro g' L' h' tk' cells' FG' F' N' Y' B' X' T' l1; (have lB : ∀ q ∈ pre ++ tl, q.1 < L' := fun q hq => l1 q (.tail _ hq)); (try k_lt l1); k_cells Y'; (try simp only [List.cons_append, List.nil_append] at N'); (try dsimp only); (try k_lift B'); (try k_fold))
  k_steps
  unfold Stop
  (k_here; kn_here; k_dflt (refine' nestDef_K ?d0Y1 ?k0Y1 ?a0Y1 ?_; (case d0Y1 => exact rfl); (case k0Y1 => exact rfl); (case a0Y1 => exact rfl)); (k_dflt (refine' nestB (pre := _ :: _ :: _ :: _ :: _) ?FY1 ?NY1 ?TY1 ?CY1 ?cdY1 ?TSY1 ?lnY1 ?colY1 ?qY1 ?poY1 ?clY1 ?_; (case FY1 => k_asm); (case NY1 => k_asm); (case TY1 => k_asm); (case CY1 => kn_code); (case cdY1 => exact rfl); (case TSY1 => assumption); (case lnY1 => exact rfl); (case colY1 => exact rfl); (case qY1 => exact rfl); (case poY1 => walk_at "mine preok"); (case clY1 => exact rfl); k_whole; intro f' c' tl' ct' dc' h' tk' F' TS' G' CF' N' l1; (try simp only [List.cons_append] at N' l1); (try k_lt l1))))
  k_steps
  · rename News _ _ _ _ => NN
    rename Fr _ _ _ _ => FF
    rename CodeFor _ _ _ => CF
    rename TabS _ => TT
    obtain ⟨fa, fo, rr, rfl, hfo, hrr, N2⟩ := cap1 NN
    have hb : (0 : Int) < 2 ^ n.toNat := Int.pow_pos (by decide)
    have inner : ∀ (k : Nat) (dp un : Nat) (gd : Option (List Code)) (cn : Str) (cs : Scope) (a : Addr) (ccd : Value) (cl : List (Str × Addr)) (outer : List Env) (A₀ : Around) (h₀ : Heap) (L : Addr) (m : Str → Option Value) (s : Shared) (Q E : Value → Shared → Prop)
        (lo hi : Int) (tlo thi : Tok),
        Below A₀ base outer h₀ → Fr h₀ L s.heap m → (Mine.hd.heap_1 w.params).In h₀ → Top p loose mean mg mb h₀ → cs.kind = .function → dp + k + 1 < recursionLimit → un + 4 * k + 8 < cLine →
        0 ≤ lo → lo < hi → hi - lo ≤ k → hi ≤ ns.length → undig (2 ^ n.toNat) (slice ns lo.toNat hi.toNat) < 2 ^ 62 →
        News h₀ L s.heap ((fa, fo) :: rr) →
        (∀ h' tk' t, Fr h₀ L h' m → News h₀ L h' ((fa, fo) :: rr) → Q (.int (undig (2 ^ n.toNat) (slice ns lo.toNat hi.toNat)) t) { s with heap := h', toks := tk' }) →
        wpAny (model PySem.Challenge.rw_pg0172_01.row.prog w) (ktrTop dp un gd cn cs L a ccd cl outer) (call (.ref fa) [.int lo tlo, .int hi thi]) Q E s := by
      subst hfo hrr
      intro k
      induction k with
      | zero => intros; omega
      | succ k ih =>
        intro dp un gd cn cs a ccd cl outer A₀ h₀ L m s Q E lo hi tlo thi B F X T hk hd hu h0 h1 h2 h3 h4 N ret
        have e1 : (lo + hi).fdiv (2 ^ Int.toNat 1) = (lo + hi) / 2 := fdiv2 _
        have hs0 : 0 ≤ ((lo + hi).fdiv (2 ^ Int.toNat 1) - lo) * n := by rw [e1]; exact Int.mul_nonneg (by omega) (by omega)
        have hs1 : ((lo + hi).fdiv (2 ^ Int.toNat 1) - lo) * n ≤ 1000000 := by
          rw [e1]
          have : ((lo + hi) / 2 - lo) * n ≤ 62 * 64 := Int.mul_le_mul (by omega) (by omega) (by omega) (by omega)
          omega
        have hCR : s.heap.CodeRec (.ref _) qB := CodeFor.rec CF N (by walk_at "mine sub")
        refine wpAny_call ?_
        (refine' code_nest ?k1 ?k2 ?k3 ?k4 ?k5 ?kA ?kF ?kK ?k6 ?k7 ?k8 ?k9 ?kB ?_ ?c2 ?c3 ?c4 ?c5; (case kA => exact rfl); (case kF => exact rfl); (case kK => assumption); (case k1 => k_asm); (case k2 => k_asm); (case k3 => k_asm); (case k4 => k_asm); (case k5 => k_asm); (case k6 => k_mem); (case k7 => exact hCR); (case k8 => ktr_room); (case k9 => exact BindsTo.of_eq rfl); (case c5 => decide); (case kB => exact locs rfl); (case c2 => exact rfl); (case c3 => exact rfl); (case c4 => exact rfl); k_whole; intro g' L' h' FG' F' N' B' X' T'; (try dsimp only); (try k_lift B'); (try k_fold))
        k_steps
        · have e2 : hi.toNat = lo.toNat + 1 := by omega
          have e3 : undig (2 ^ n.toNat) (slice ns lo.toNat hi.toNat) = ns.getD lo.toNat 0 := by
            rw [e2, slice_one (by omega)]
            simp only [undig]
            omega
          rw [e3] at ret
          exact ret _ _ _ (by assumption) (by assumption)
        · obtain ⟨p1, p2, p3, p4, p5⟩ := undig_parts hb hpos (lo := lo.toNat) (mid := ((lo + hi) / 2).toNat) (hi := hi.toNat) (by omega) (by omega) (by omega)
          refine' ih _ _ _ _ _ _ _ _ _ _ _ _ _ _ _ _ ((lo + hi).fdiv (2 ^ Int.toNat 1)) hi _ _ ?B ?F ?X ?T ?hk ?hd ?hu ?h0 ?h1 ?h2 ?h3 ?h4 ?N ?_
          case B => k_asm
          case F => k_asm
          case X => k_asm
          case T => k_asm
          case hk => rfl
          case hd => ktr_room
          case hu => ktr_units
          case h0 => rw [e1]; omega
          case h1 => rw [e1]; omega
          case h2 => rw [e1]; omega
          case h3 => exact h3
          case h4 => rw [e1]; omega
          case N => k_asm
          intro h2' tk2 t2 F2 N2
          have hs2 : (undig (2 ^ n.toNat) (slice ns ((lo + hi).fdiv (2 ^ Int.toNat 1)).toNat hi.toNat)).natAbs < 2 ^ 64 := by rw [e1]; omega
          k_steps
          refine' ih _ _ _ _ _ _ _ _ _ _ _ _ _ _ _ _ lo ((lo + hi).fdiv (2 ^ Int.toNat 1)) _ _ ?B ?F ?X ?T ?hk ?hd ?hu ?h0 ?h1 ?h2 ?h3 ?h4 ?N ?_
          case B => k_asm
          case F => k_asm
          case X => k_asm
          case T => k_asm
          case hk => rfl
          case hd => ktr_room
          case hu => ktr_units
          case h0 => exact h0
          case h1 => rw [e1]; omega
          case h2 => rw [e1]; omega
          case h3 => rw [e1]; omega
          case h4 => rw [e1]; omega
          case N => k_asm
          intro h3' tk3 t3 F3 N3
          k_steps
          have eS : (2:Int) ^ (((lo + hi).fdiv (2 ^ Int.toNat 1) - lo) * n).toNat = (2 ^ n.toNat) ^ (((lo + hi) / 2).toNat - lo.toNat) := by
            rw [e1, shift_toNat (by omega) (by omega), Int.pow_mul]
            congr 1
            omega
          have e5 : undig (2 ^ n.toNat) (slice ns ((lo + hi).fdiv (2 ^ Int.toNat 1)).toNat hi.toNat) * 2 ^ (((lo + hi).fdiv (2 ^ Int.toNat 1) - lo) * n).toNat + undig (2 ^ n.toNat) (slice ns lo.toNat ((lo + hi).fdiv (2 ^ Int.toNat 1)).toNat) = undig (2 ^ n.toNat) (slice ns lo.toNat hi.toNat) := by
            rw [eS, e1, p1, Int.mul_comm]
            omega
          rw [e5]
          exact ret _ _ _ (by assumption) (by assumption)
    have h0 : ns ≠ [] := by
      intro e
      subst e
      simp_all
    have h00 : 0 < ns.length := List.length_pos_iff.mpr h0
    subst hrr
    refine' inner 62 _ _ _ _ _ _ _ _ _ _ _ _ _ _ _ _ 0 _ _ _ ?B ?F ?X ?T ?hk ?hd ?hu ?h0 ?h1 ?h2 ?h3 ?h4 ?N ?_
    case B => k_asm
    case F => k_asm
    case X => k_asm
    case T => k_asm
    case hk => rfl
    case hd => ktr_room
    case hu => ktr_units
    case h0 => omega
    case h1 => omega
    case h2 => omega
    case h3 => omega
    case h4 =>
      show undig (2 ^ n.toNat) (slice ns 0 (ns.length : Int).toNat) < 2 ^ 62
      rw [Int.toNat_natCast, slice_all]
      exact hval
    case N => k_asm
    intro h3' tk3 t3 F3 N3
    have e9 : undig (2 ^ n.toNat) (slice ns (0 : Int).toNat (ns.length : Int).toNat) = undig (2 ^ n.toNat) ns := by
      show undig (2 ^ n.toNat) (slice ns 0 (ns.length : Int).toNat) = _
      rw [Int.toNat_natCast, slice_all]
    rw [e9]
    k_steps
    refine' ret _ _ _ _ ?r1 ?r2 ?rg ?r3
    case r1 => assumption
    case r2 => assumption
    case rg => walk_at "mine grow"
    case r3 => exact News.sub (by assumption) (by walk_at "mine sub2")
  · have e0 : ns = [] := by
      cases ns with
      | nil => rfl
      | cons x r => simp_all
    subst e0
    refine' ret _ _ _ _ ?r1 ?r2 ?rg ?r3
    case r1 => assumption
    case r2 => assumption
    case rg => walk_at "mine grow"
    case r3 => exact News.sub (by assumption) (by walk_at "mine sub2")
end
end
section
open PySem PySem.W PyProof.Rows
set_option maxRecDepth 100000
set_option maxHeartbeats 8000000
theorem fill3 : PySem.Challenge.rw_pg0172_01 = PySem.Challenge.rw_pg0172_01 ∧ Mine.hd.heap_1 = Mine.hd.heap_1 := by
  w_top off
  k_fill
  exact ⟨rfl, rfl⟩

section
variable {w : World} {p : Program} {loose : List Str} {mean : ExcName → Option Value} {mg mb : Str → Option Value}
  {dp un : Nat} {gd : Option (List Code)} {cn : Str} {cs : Scope} {a : Addr} {ccd : Value} {cl : List (Str × Addr)} {outer : List Env} {A₀ : Around} {base h₀ : Heap} {L : Addr} {m : Str → Option Value} {s : Shared} {Q E : Value → Shared → Prop} {news : List (Addr × Obj)}

local macro_rules | `(tactic| walk_at "pyIter ref") => `(tactic| (refine Stop.to ?_))
local macro_rules | `(tactic| walk_at "call ref") => `(tactic| (k_here; k_dflt (refine' c_div2n1n _ _ _ _ _ _ _ _ _ _ _ _ _ _ _ _ _ ?_; walk_at "cc"; walk_at "il")))
local macro_rules | `(tactic| walk_at "call ref") => `(tactic| (k_here; k_dflt (refine' c_int2digits _ _ _ _ _ _ _ _ _ _ _ _ _ _ _ _ _ _ _ ?_; walk_at "cc"; intros)))

theorem c_divmod_pos {pre tl : List (Addr × Obj)} (B : Below A₀ base outer h₀) (F : Fr h₀ L s.heap m) (X : (Mine.hd.heap_1 w.params).In h₀) (N : News h₀ L s.heap (pre ++ tl)) (T : Top p loose mean mg mb h₀) (hk : cs.kind = .function)
    (C1 : CodeHd base 41 37) (C2 : CodeHd base 48 44) (TS : TabS tl) (hpre : PreOk pre)
    (hd : dp + 150 < recursionLimit) (hu : un + 500 < cLine) (x y : Int) (tx ty : Tok) (hx : 0 ≤ x) (hx2 : x < 2 ^ 62) (hy : 0 < y) (hy2 : y < 1073741824)
    (ret : ∀ (h' : Heap) (tk' t1 t2 : Nat) (r : Addr) (tl' : List (Addr × Obj)), Fr h₀ L h' m → TabS tl' → Grow pre tl tl' → News h₀ L h' ((r, { cls := .type "tuple", data := .seq #[.int (x / y) t1, .int (x % y) t2] }) :: (pre ++ tl')) → (∀ p ∈ pre ++ tl', p.1 < r) → Q (.ref r) { s with heap := h', toks := tk' }) :
    wpAny (model PySem.Challenge.rw_pg0172_01.row.prog w) (ktrTop dp un gd cn cs L a ccd cl outer) (call (.ref 56) [.int x tx, .int y ty]) Q E s := by
  have hn : (0 : Int) < (Builtin.Int.intBits y : Int) := by have := bits_pos hy; omega
  have hn2 : (Builtin.Int.intBits y : Int) < 64 := by have := intBits_le (k := 30) (Int.le_of_lt hy) (by omega); omega
  have hn3 : (Builtin.Int.intBits y : Int) ≤ 30 := by have := intBits_le (k := 30) (Int.le_of_lt hy) (by omega); omega
  obtain ⟨hK0, hK1, hK2⟩ := ndig_facts hx hx2 hn
  refine wpAny_call ?_
  k_dflt cell_enter
  k_steps
  rename News _ _ _ _ => NN
  rename Fr _ _ _ _ => FF
  rename TabS _ => TT
  rename IntsAre _ _ => II
  obtain ⟨avs, rfl, II⟩ := capI II
  obtain ⟨tla, rfl, TT⟩ := capT TT
  obtain ⟨m0, hm0, F0⟩ := capM FF
  unfold Stop
  obtain ⟨da, o1, qa, r1, rfl, ho1, rfl, hr1, N1⟩ := cap3 NN
  subst ho1
  obtain ⟨aa, ao, r2, rfl, hao, hr2, N2⟩ := cap1 (News.sub N1 (l' := r1) (fun p hp => .tail _ (.tail _ hp)) |> (hr1 ▸ ·))
  subst hr1
  clear N2 hao hr2 ao r2 NN FF
  have hB : (0 : Int) < 2 ^ (Builtin.Int.intBits y : Int).toNat := Int.pow_pos (by decide)
  refine iterRev (I := da) (ax := aa) (lo := W.listOf avs.toArray 0) (vs := avs) (fun i m' n' => ∃ (r : Int) (t : Tok) (uq ua : Option Value) (qvs : List Value) (qs : List Int) (ep : Nat),
      m' = (fun z => if z = Str.ofString "r" then some (.int r t) else if z = Str.ofString "q_digit" then uq else if z = Str.ofString "a_digit" then ua else m0 z) ∧
      n' = (qa, W.listOf qvs.toArray ep) :: (aa, W.listOf avs.toArray 0) :: (pre ++ tla) ∧ IntsAre qvs qs ∧
      DivInv y (2 ^ (Builtin.Int.intBits y : Int).toNat) (digI (2 ^ (Builtin.Int.intBits y : Int).toNat) (ndig x (Builtin.Int.intBits y)) x) i r qs) rfl F0 N1 ?hne ?hm rfl rfl ?h0 ?hJ ?turn ?done
  case hne => k_all
  case hm => k_mem
  case h0 =>
    subst hm0
    refine' ⟨0, _, _, _, [], [], 0, map3 _ (Str.ofString "r") (Str.ofString "q_digit") (Str.ofString "a_digit") rfl, rfl, .nil, DivInv.start hy⟩
  case hJ =>
    rintro i m' n' ⟨r, t, uq, ua, qvs, qs, ep, rfl, rfl, _, _⟩
    k_mem
  case turn =>
    rintro i v m₁ news₁ it h tk hi hv ⟨r, t, uq, ua, qvs, qs, ep, rfl, rfl, hqs, hinv⟩ hit hne F₁ N₁
    subst hm0
    obtain ⟨td, hdl, rfl⟩ := ints_at (ints_rev II) hv
    obtain ⟨hst, hs0, hs1⟩ := hinv.step hy hB (by rw [List.length_reverse] at hdl; exact hdl) (digI_nonneg hB _ _)
    have hne2 := neAll_of hne
    simp only [NeAll, and_true] at hne2
    have hql : qvs.length ≤ 1000000 := by
      have h1 := hqs.length
      have h2 := hinv.len
      have h3 := II.length
      rw [digI_length] at h3
      have h4 : ndig x (Builtin.Int.intBits y) ≤ 62 := by unfold ndig; omega
      omega
    have hr0 := hinv.r0
    have hr1 := hinv.r1
    have hsh : (Builtin.Int.intBits (r * 2 ^ (Builtin.Int.intBits y : Int).toNat + (digI (2 ^ (Builtin.Int.intBits y : Int).toNat) (ndig x (Builtin.Int.intBits y)) x).reverse.getD i 0) : Int) - (Builtin.Int.intBits y : Int) ≤ 4000 := by
      have h1 : (2 : Int) ^ (Builtin.Int.intBits y : Int).toNat ≤ 2 ^ 30 := pow2_mono (by omega)
      have h2 : y * 2 ^ (Builtin.Int.intBits y : Int).toNat ≤ 1073741824 * 2 ^ 30 := Int.mul_le_mul (by omega) h1 (Int.le_of_lt hB) (by omega)
      have := intBits_le (k := 64) hs0 (by omega)
      omega
    k_steps
    refine' TurnEnd.intro ?tF ?tN ?tn ?tJ
    case tF => assumption
    case tN => exact News.drop (by assumption)
    case tJ =>
      refine' ⟨_, _, _, _, _, _, _, ?jm, ?jn, ?ji, ?jd⟩
      case jd => exact hst
      case jn => rfl
      case ji => exact IntsAre.append hqs (.cons _ _ .nil)
      case jm => exact map3_up (a := Str.ofString "r") (b := Str.ofString "q_digit") (c := Str.ofString "a_digit")
    case tn => k_all
  case done =>
    rintro h' tk m' news' F₁ N₁ ⟨r, t, uq, ua, qvs, qs, ep, rfl, rfl, hqs, hinv⟩
    subst hm0
    have eL : avs.length = ndig x (Builtin.Int.intBits y) := by rw [II.length, digI_length]
    rw [eL] at hinv
    obtain ⟨d1, d2, d3, d4⟩ := hinv.last hy hB hx hK2
    have hln := hinv.len
    clear hinv
    subst d2
    have hql : qvs.length ≤ 1000000 := by
      have h1 := hqs.length
      have h2 := hln
      have h4 : ndig x (Builtin.Int.intBits y) ≤ 62 := by unfold ndig; omega
      omega
    k_steps
    k_dflt (refine' c_digits2int (pre := _ :: pre) (ns := qs.reverse) ?B ?F ?X ?N ?T ?hk ?C2 ?TS ?po ?hI ?hd ?hu _ _ ?hn ?hn2 ?hl ?hp ?hv ?_)
    case N => k_asm
    case B => k_asm
    case F => k_asm
    case X => k_asm
    case T => k_asm
    case hk => rfl
    case C2 => assumption
    case TS => assumption
    case po => walk_at "mine preok"
    case hI => exact ints_rev hqs
    case hd => ktr_room
    case hu => ktr_units
    case hn => exact hn
    case hn2 => exact hn2
    case hl =>
      have h2 := hln
      have h4 : ndig x (Builtin.Int.intBits y) ≤ 62 := by unfold ndig; omega
      rw [List.length_reverse]
      omega
    case hp => exact d3
    case hv => exact Int.lt_of_le_of_lt d4 hx2
    intro h2' tk2 t2 tl2 F2 TS2 G2 N2
    rw [d1]
    k_steps
    refine' ret _ _ _ _ _ _ ?r1 ?r2 ?rg ?r3 ?r4
    case r1 => assumption
    case r2 => assumption
    case rg => walk_at "mine grow"
    case r3 => exact News.sub (by assumption) (by walk_at "mine sub2")
    case r4 => exact ltSubs (by assumption) (by walk_at "mine sub2")
end
end
section
open PySem PySem.W PyProof.Rows
set_option maxRecDepth 100000
set_option maxHeartbeats 8000000
theorem fill4 : PySem.Challenge.rw_pg0172_01 = PySem.Challenge.rw_pg0172_01 ∧ Mine.hd.heap_1 = Mine.hd.heap_1 := by
  w_top off
  k_fill
  exact ⟨rfl, rfl⟩

section
variable {w : World} {p : Program} {loose : List Str} {mean : ExcName → Option Value} {mg mb : Str → Option Value}
  {dp un : Nat} {gd : Option (List Code)} {cn : Str} {cs : Scope} {a : Addr} {ccd : Value} {cl : List (Str × Addr)} {outer : List Env} {A₀ : Around} {base h₀ : Heap} {L : Addr} {m : Str → Option Value} {s : Shared} {Q E : Value → Shared → Prop} {news : List (Addr × Obj)}
local macro_rules | `(tactic| walk_at "call ref") => `(tactic| (k_here; k_dflt (refine' c_divmod_pos _ _ _ _ _ _ _ _ _ _ _ _ _ _ _ _ _ _ _ _ ?_; walk_at "cc"; walk_at "il")))
local macro_rules | `(tactic| walk_at "pyIter ref") => `(tactic| (refine Stop.to ?_))
theorem c_idP {pre tl : List (Addr × Obj)} (B : Below A₀ base outer h₀) (F : Fr h₀ L s.heap m) (X : (Mine.hd.heap_1 w.params).In h₀) (N : News h₀ L s.heap (pre ++ tl)) (T : Top p loose mean mg mb h₀) (hk : cs.kind = .function)
    (C1 : CodeHd base 41 37) (C2 : CodeHd base 48 44) (TS : TabS tl) (hpre : PreOk pre)
    (hd : dp + 160 < recursionLimit) (hu : un + 800 < cLine) (x y : Int) (tx ty : Tok) (hx : 0 ≤ x) (hx2 : x < 2 ^ 62) (hy : 0 < y) (hy2 : y < 1073741824)
    (ret : ∀ (h' : Heap) (tk' t1 t2 : Nat) (r : Addr) (tl' : List (Addr × Obj)), Fr h₀ L h' m → TabS tl' → Grow pre tl tl' → News h₀ L h' ((r, { cls := .type "tuple", data := .seq #[.int (x / y) t1, .int (x % y) t2] }) :: (pre ++ tl')) → (∀ p ∈ pre ++ tl', p.1 < r) → Q (.ref r) { s with heap := h', toks := tk' }) :
    wpAny (model PySem.Challenge.rw_pg0172_01.row.prog w) (ktrTop dp un gd cn cs L a ccd cl outer) (call (.ref 63) [.int x tx, .int y ty]) Q E s := by
  refine wpAny_call ?_
  k_dflt cell_enter
  k_steps
  · exfalso; omega
  · exact ret _ _ _ _ _ _ (by assumption) (by assumption) (by walk_at "mine grow") (by assumption) (by assumption)
local macro_rules | `(tactic| walk_at "call ref") => `(tactic| (k_here; k_dflt (refine' c_idP _ _ _ _ _ _ _ _ _ _ _ _ _ _ _ _ _ _ _ _ ?_; walk_at "cc"; walk_at "il")))
theorem c_idQ {pre tl : List (Addr × Obj)} (B : Below A₀ base outer h₀) (F : Fr h₀ L s.heap m) (X : (Mine.hd.heap_1 w.params).In h₀) (N : News h₀ L s.heap (pre ++ tl)) (T : Top p loose mean mg mb h₀) (hk : cs.kind = .function)
    (C1 : CodeHd base 41 37) (C2 : CodeHd base 48 44) (TS : TabS tl) (hpre : PreOk pre)
    (hd : dp + 170 < recursionLimit) (hu : un + 850 < cLine) (x y : Int) (tx ty : Tok) (hx : -2 ^ 62 < x) (hx2 : x < 2 ^ 62) (hy : 0 < y) (hy2 : y < 1073741824)
    (ret : ∀ (h' : Heap) (tk' t1 t2 : Nat) (r : Addr) (tl' : List (Addr × Obj)), Fr h₀ L h' m → TabS tl' → Grow pre tl tl' → News h₀ L h' ((r, { cls := .type "tuple", data := .seq #[.int (x.fdiv y) t1, .int (x.fmod y) t2] }) :: (pre ++ tl')) → (∀ p ∈ pre ++ tl', p.1 < r) → Q (.ref r) { s with heap := h', toks := tk' }) :
    wpAny (model PySem.Challenge.rw_pg0172_01.row.prog w) (ktrTop dp un gd cn cs L a ccd cl outer) (call (.ref 63) [.int x tx, .int y ty]) Q E s := by
  have hb : Builtin.bitNot x = -x - 1 := rfl
  refine wpAny_call ?_
  k_dflt cell_enter
  k_steps
  · exfalso; omega
  · obtain ⟨e1, e2⟩ := fd_not x hy
    rw [← e1, ← e2] at ret
    refine' ret _ _ _ _ _ _ ?r1 ?r2 ?rg ?r3 ?r4
    case r1 => assumption
    case r2 => assumption
    case rg => walk_at "mine grow"
    case r3 => exact News.sub (by assumption) (by walk_at "mine sub2")
    case r4 => exact ltSubs (by assumption) (by walk_at "mine sub2")
  · obtain ⟨e1, e2⟩ := fd_pos x hy
    rw [← e1, ← e2] at ret
    exact ret _ _ _ _ _ _ (by assumption) (by assumption) (by walk_at "mine grow") (by assumption) (by assumption)
local macro_rules | `(tactic| walk_at "call ref") => `(tactic| (k_here; k_dflt (refine' c_idQ _ _ _ _ _ _ _ _ _ _ _ _ _ _ _ _ _ _ _ _ ?_; walk_at "cc"; walk_at "il")))
theorem c_int_divmod {pre tl : List (Addr × Obj)} (B : Below A₀ base outer h₀) (F : Fr h₀ L s.heap m) (X : (Mine.hd.heap_1 w.params).In h₀) (N : News h₀ L s.heap (pre ++ tl)) (T : Top p loose mean mg mb h₀) (hk : cs.kind = .function)
    (C1 : CodeHd base 41 37) (C2 : CodeHd base 48 44) (TS : TabS tl) (hpre : PreOk pre)
    (hd : dp + 180 < recursionLimit) (hu : un + 900 < cLine) (x y : Int) (tx ty : Tok) (hx : -2 ^ 62 < x) (hx2 : x < 2 ^ 62) (hy : y ≠ 0) (hy1 : -1073741824 < y) (hy2 : y < 1073741824)
    (ret : ∀ (h' : Heap) (tk' t1 t2 : Nat) (r : Addr) (tl' : List (Addr × Obj)), Fr h₀ L h' m → TabS tl' → Grow pre tl tl' → News h₀ L h' ((r, { cls := .type "tuple", data := .seq #[.int (x.fdiv y) t1, .int (x.fmod y) t2] }) :: (pre ++ tl')) → (∀ p ∈ pre ++ tl', p.1 < r) → Q (.ref r) { s with heap := h', toks := tk' }) :
    wpAny (model PySem.Challenge.rw_pg0172_01.row.prog w) (ktrTop dp un gd cn cs L a ccd cl outer) (call (.ref 63) [.int x tx, .int y ty]) Q E s := by
  rcases Int.lt_or_gt_of_ne hy with hneg | hpos
  case inr => exact c_idQ B F X N T hk C1 C2 TS hpre (by omega) (by omega) x y tx ty hx hx2 hpos hy2 ret
  refine wpAny_call ?_
  k_dflt cell_enter
  k_steps
  · exfalso; omega
  · obtain ⟨e1, e2⟩ := fd_neg x y
    rw [← e1, ← e2] at ret
    refine' ret _ _ _ _ _ _ ?r1 ?r2 ?rg ?r3 ?r4
    case r1 => assumption
    case r2 => assumption
    case rg => walk_at "mine grow"
    case r3 => exact News.sub (by assumption) (by walk_at "mine sub2")
    case r4 => exact ltSubs (by assumption) (by walk_at "mine sub2")
end
end
section
open PySem PySem.W PyProof.Rows
set_option maxRecDepth 100000
set_option maxHeartbeats 8000000
theorem fill5 : PySem.Challenge.rw_pg0172_01 = PySem.Challenge.rw_pg0172_01 ∧ Mine.hd.heap_1 = Mine.hd.heap_1 := by
  w_top off
  k_fill
  exact ⟨rfl, rfl⟩

section
variable {w : World} {p : Program} {loose : List Str} {mean : ExcName → Option Value} {mg mb : Str → Option Value}
  {dp un : Nat} {gd : Option (List Code)} {cn : Str} {cs : Scope} {a : Addr} {ccd : Value} {cl : List (Str × Addr)} {outer : List Env} {A₀ : Around} {base h₀ : Heap} {L : Addr} {m : Str → Option Value} {s : Shared} {Q E : Value → Shared → Prop} {news : List (Addr × Obj)}

local macro_rules | `(tactic| walk_at "truthy ref") => `(tactic| (k_here; k_dflt (refine' truthyCons _ _ _ ?_; walk_at "cc"); intros))
local macro_rules | `(tactic| walk_at "call type:set cons nil") => `(tactic| (k_here; k_dflt (refine' newSetStr_N _ _ _ _ ?_; walk_at "cc"); walk_at "il"))
theorem c_readerM {lst ep : Nat} {mod : Str} {tm : Tok} (B : Below A₀ base outer h₀) (F : Fr h₀ L s.heap m) (X : (Mine.hd.heap_1 w.params).In h₀) (N : News h₀ L s.heap ((lst, W.listOf [Value.str mod tm].toArray ep) :: news)) (T : Top p loose mean mg mb h₀) (hk : cs.kind = .function)
    (hd : dp + 20 < recursionLimit) (hu : un + 100 < cLine) (hx : mod.length ≤ 100000)
    (ret : ∀ (h' : Heap) (tk' t t1 t2 t3 n : Nat) (x dx S l ig : Addr) (io : Obj), Fr h₀ L h' m → News h₀ L h' ((ig, io) :: rdObjs w.params t1 t2 t3 x dx S l ig n (set1 (ledOf w) ((PySem.strKind PySem.Challenge.rw_pg0172_01.row.prog w).hash mod) (.str mod tm)) (W.listOf #[] 0) ((lst, W.listOf [Value.str mod tm].toArray ep) :: news)) →
      io.IsDictOf (PySem.strKind PySem.Challenge.rw_pg0172_01.row.prog w) [(Str.ofString "<string>", .int 1 t)] → (ig == sysModules) = false → (∀ p ∈ (lst, W.listOf [Value.str mod tm].toArray ep) :: news, p.1 < dx) → @LT.lt Nat _ dx x → @LT.lt Nat _ x S → @LT.lt Nat _ S l → @LT.lt Nat _ l ig → Q (.ref x) { s with heap := h', toks := tk' }) :
    wpAny (model PySem.Challenge.rw_pg0172_01.row.prog w) (ktrTop dp un gd cn cs L a ccd cl outer) (call (.ref 121) [.ref lst]) Q E s := by
  k_dflt (refine' call_cls ?k1 ?k2 ?k3 ?k4 ?k5 ?k6 ?_; (case k1 => k_asm); (case k2 => k_asm); (case k3 => k_asm); (case k4 => k_is); (case k5 => k_is); (case k6 => k_is); k_whole; intro x' d' h' F' N' l1 l2; (try k_lt l1); (try k_lt2 l2); (try k_sweep))
  k_dflt (refine' code_def ?k1 ?k2 ?k3 ?k4 ?k5 ?kA ?kF ?kK ?k6 ?k7 ?k8 ?k9 ?kB ?_ ?c2 ?c3 ?c4 ?c5; (case kA => exact rfl); (case kF => exact rfl); (case kK => assumption); (case k1 => k_asm); (case k2 => k_asm); (case k3 => k_asm); (case k4 => k_asm); (case k5 => k_asm); (case k6 => k_is); (case k7 => k_is); (case k8 => (simp only [depth_under_make]; omega)); (case k9 => first | exact BindsTo.of_eq rfl | exact binds_K (by k_in) rfl (by k_is) rfl rfl rfl); (case c5 => decide); (case kB => exact locs rfl); (case c2 => exact rfl); (case c3 => exact rfl); (case c4 => exact rfl); k_whole; intro g' L' h' FG' F' N' B' X' T'; (try dsimp only); (try k_lift B'); (try k_fold))
  k_steps
  refine' ret _ _ _ _ _ _ _ _ _ _ _ _ _ ?r1 ?r2 ?r3 ?r4 ?r5 ?r6 ?r7 ?r8 ?r9
  case r1 => assumption
  case r2 => exact News.sub (by assumption) (by walk_at "mine sub2")
  case r3 => assumption
  case r4 => assumption
  case r5 => assumption
  case r6 => omega
  case r7 => omega
  case r8 => omega
  case r9 => omega
end
end
section
open PySem PySem.W PyProof.Rows
set_option maxRecDepth 100000
set_option maxHeartbeats 8000000
theorem fill8 : PySem.Challenge.rw_pg0172_01 = PySem.Challenge.rw_pg0172_01 ∧ Mine.hd.heap_1 = Mine.hd.heap_1 := by
  w_top off
  k_fill
  exact ⟨rfl, rfl⟩

section
variable {w : World} {p : Program} {loose : List Str} {mean : ExcName → Option Value} {mg mb : Str → Option Value}
  {dp un : Nat} {gd : Option (List Code)} {cn : Str} {cs : Scope} {a : Addr} {ccd : Value} {cl : List (Str × Addr)} {outer : List Env} {A₀ : Around} {base h₀ : Heap} {L : Addr} {m : Str → Option Value} {s : Shared} {Q E : Value → Shared → Prop} {news : List (Addr × Obj)}

local macro_rules | `(tactic| walk_at "pyIter ref") => `(tactic| (refine Stop.to ?_))
local macro_rules | `(tactic| walk_at "compareOp In str ref") => `(tactic| (k_here; k_dflt (first
  | (refine' dictIn_none (knd := PySem.strKind _ _) ?N ?m ?d ?lo (strKind_is _ _ _ _) ?v ?_; (case N => k_asm); (case m => k_mem); (case d => assumption); (case lo => assumption); (case v => assumption); intro _)
  | (refine' dictIn_some (knd := PySem.strKind _ _) ?N ?m ?d ?lo (strKind_is _ _ _ _) ?v ?_; (case N => k_asm); (case m => k_mem); (case d => assumption); (case lo => assumption); (case v => assumption); intro _)
  | (refine' setIn1_N ?N ?m ?_; (case N => k_asm); (case m => k_mem); intro _)
  | (refine' setIn0_N ?N ?m ?_; (case N => k_asm); (case m => k_mem); intro _))))
local macro_rules | `(tactic| walk_at "getItem ref str") => `(tactic| (k_here; k_dflt (refine' dictItem (knd := PySem.strKind _ _) _ _ _ (strKind_is _ _ _ _) _ ?_; walk_at "cc"); intros))
local macro_rules | `(tactic| walk_at "setItem ref str") => `(tactic| (k_here; k_dflt (refine' kda_set (knd := PySem.strKind _ _) ?F ?N ?U ?d (strKind_is _ _ _ _) ?z ?_; (case F => k_asm); (case N => k_asm); (case U => k_updF); (case d => k_asm); (case z => rw [sizeLine_eq]; omega)); intro h' o' F' N' hd'; (try dsimp only at N')))

theorem c_namesM {x dx S l ig : Nat} {io : Obj} {kvs : List (Str × Value)} {t1 t2 t3 : Tok} {n : Nat} {mod mn fn : Str} {tm tn tf : Tok} (B : Below A₀ base outer h₀) (F : Fr h₀ L s.heap m) (X : (Mine.hd.heap_1 w.params).In h₀)
    (N : News h₀ L s.heap ((ig, io) :: rdObjs w.params t1 t2 t3 x dx S l ig n (set1 (ledOf w) ((PySem.strKind PySem.Challenge.rw_pg0172_01.row.prog w).hash mod) (.str mod tm)) (W.listOf #[] 0) news))
    (T : Top p loose mean mg mb h₀) (hk : cs.kind = .function)
    (hsep : ∀ p ∈ rdObjs w.params t1 t2 t3 x dx S l ig n (set1 (ledOf w) ((PySem.strKind PySem.Challenge.rw_pg0172_01.row.prog w).hash mod) (.str mod tm)) (W.listOf #[] 0) news, p.1 ≠ ig) (lo : (ig == sysModules) = false)
    (hD : io.IsDictOf (PySem.strKind PySem.Challenge.rw_pg0172_01.row.prog w) kvs) (hz : kvs.length ≤ 100000) (hv : valueAt kvs mn = none)
    (hd : dp + 20 < recursionLimit) (hu : un + 100 < cLine) (hx1 : mod.length ≤ 100000) (hx2 : mn.length ≤ 100000) (hx3 : fn.length ≤ 100000)
    (ret : ∀ (h' : Heap) (tk' t t' : Nat) (io' : Obj), Fr h₀ L h' m → News h₀ L h' ((ig, io') :: rdObjs w.params t1 t2 t3 x dx S l ig n (set1 (ledOf w) ((PySem.strKind PySem.Challenge.rw_pg0172_01.row.prog w).hash mod) (.str mod tm)) (W.listOf #[] 0) news) → io'.IsDictOf (PySem.strKind PySem.Challenge.rw_pg0172_01.row.prog w) (stored kvs mn (.int (b01 (verdM mod mn)) t)) → Q (.int (b01 (verdM mod mn)) t') { s with heap := h', toks := tk' }) :
    wpAny (model PySem.Challenge.rw_pg0172_01.row.prog w) (ktrTop dp un gd cn cs L a ccd cl outer) (call (.ref 118) [.ref x, .str fn tf, .str mn tn]) Q E s := by
  have hsep2 := neAll_of hsep
  simp only [NeAll] at hsep2
  refine wpAny_call ?_
  k_dflt cell_enter
  k_steps
  · have eV : verdM mod mn = true := by unfold verdM; simp_all
    rw [eV] at ret
    exact ret _ _ _ _ _ (by assumption) (by assumption) (by assumption)
  rename News _ _ _ _ => NN
  rename Fr _ _ _ _ => FF
  obtain ⟨m0, hm0, F0⟩ := capM FF
  unfold Stop
  refine' iterSet1 (S := S) (hs := (PySem.strKind PySem.Challenge.rw_pg0172_01.row.prog w).hash mod) (u := .str mod tm) (J := fun i m' n' => n' = ((ig, io) :: rdObjs w.params t1 t2 t3 x dx S l ig n (set1 (ledOf w) ((PySem.strKind PySem.Challenge.rw_pg0172_01.row.prog w).hash mod) (.str mod tm)) (W.listOf #[] 0) news) ∧
      (i = 0 → m' = m0) ∧ (i ≠ 0 → m' = (fun y => if y = Str.ofString "mod" then some (.str mod tm) else m0 y) ∧ PySem.Txt.startswith mn (mod ++ Str.ofString ".") = false)) rfl F0 NN ?hm ?h0 ?hJ ?turn ?done
  case hm => k_mem
  case h0 => exact ⟨rfl, fun _ => rfl, fun h => absurd rfl h⟩
  case hJ =>
    rintro i m' n' ⟨rfl, _⟩
    k_mem
  case turn =>
    rintro I m₁ news₁ it h tk ⟨rfl, hm1, _⟩ hit hne F₁ N₁
    obtain rfl := hm1 rfl
    subst hm0
    have hne2 := neAll_of hne
    simp only [NeAll] at hne2
    k_steps
    · dsimp only [MTurn]
      k_steps
      have eV : verdM mod mn = true := by unfold verdM; simp_all
      rw [eV] at ret
      refine' ret _ _ _ _ _ ?r1 ?r2 ?r3
      case r1 => assumption
      case r2 => exact News.sub (by assumption) (by walk_at "mine sub2")
      case r3 => assumption
    · refine' TurnEnd.intro ?tF ?tN ?tn ?tJ
      case tF => assumption
      case tN => assumption
      case tn => exact hne
      case tJ => exact ⟨rfl, fun h => absurd h (by decide), fun _ => ⟨rfl, by assumption⟩⟩
  case done =>
    rintro h' tk m' news' F₁ N₁ ⟨rfl, _, hm1⟩
    obtain ⟨rfl, hst⟩ := hm1 (by decide)
    subst hm0
    k_steps
    unfold Stop
    rename News _ _ _ _ => N3
    rename Fr _ _ _ _ => F3
    refine iterL (J := fun _ m' n' => m' = _ ∧ n' = _) (vs := []) (lo := W.listOf #[] 0) (ep := 0) rfl F3 N3 (by k_mem) rfl rfl ⟨rfl, rfl⟩ ?hJ2 ?turn2 ?done2
    case hJ2 =>
      rintro i m' n' ⟨rfl, rfl⟩
      k_mem
    case turn2 =>
      intro I i v m₁ news₁ it h tk hv
      simp at hv
    case done2 =>
      rintro h' tk m' news' F₁ N₁ ⟨rfl, rfl⟩
      k_steps
      have eV : verdM mod mn = false := by unfold verdM; simp_all
      rw [eV] at ret
      exact ret _ _ _ _ _ (by assumption) (by assumption) (by assumption)

theorem c_namesF {x dx S l ig : Nat} {io : Obj} {kvs : List (Str × Value)} {t1 t2 t3 : Tok} {n : Nat} {d mn fn : Str} {td tn tf : Tok} {led : Bool} {epd : Nat} (B : Below A₀ base outer h₀) (F : Fr h₀ L s.heap m) (X : (Mine.hd.heap_1 w.params).In h₀)
    (N : News h₀ L s.heap ((ig, io) :: rdObjs w.params t1 t2 t3 x dx S l ig n (set0 led) (W.listOf [Value.str d td].toArray epd) news))
    (T : Top p loose mean mg mb h₀) (hk : cs.kind = .function)
    (hsep : ∀ p ∈ rdObjs w.params t1 t2 t3 x dx S l ig n (set0 led) (W.listOf [Value.str d td].toArray epd) news, p.1 ≠ ig) (lo : (ig == sysModules) = false)
    (hD : io.IsDictOf (PySem.strKind PySem.Challenge.rw_pg0172_01.row.prog w) kvs) (hz : kvs.length ≤ 100000) (hv : valueAt kvs mn = none)
    (hd : dp + 20 < recursionLimit) (hu : un + 100 < cLine) (hx1 : d.length ≤ 100000) (hx2 : mn.length ≤ 100000) (hx3 : fn.length ≤ 100000)
    (ret : ∀ (h' : Heap) (tk' t t' : Nat) (io' : Obj), Fr h₀ L h' m → News h₀ L h' ((ig, io') :: rdObjs w.params t1 t2 t3 x dx S l ig n (set0 led) (W.listOf [Value.str d td].toArray epd) news) → io'.IsDictOf (PySem.strKind PySem.Challenge.rw_pg0172_01.row.prog w) (stored kvs mn (.int (b01 (verdF d fn)) t)) → Q (.int (b01 (verdF d fn)) t') { s with heap := h', toks := tk' }) :
    wpAny (model PySem.Challenge.rw_pg0172_01.row.prog w) (ktrTop dp un gd cn cs L a ccd cl outer) (call (.ref 118) [.ref x, .str fn tf, .str mn tn]) Q E s := by
  have hsep2 := neAll_of hsep
  simp only [NeAll] at hsep2
  refine wpAny_call ?_
  k_dflt cell_enter
  k_steps
  unfold Stop
  rename News _ _ _ _ => NN
  rename Fr _ _ _ _ => FF
  refine iterSet0 (S := S) (led := led) rfl FF NN (by k_mem) ?_
  intro h1' tk1 F1 N1
  k_steps
  unfold Stop
  rename News _ _ _ _ => N3
  rename Fr _ _ _ _ => F3
  obtain ⟨m0, hm0, F0⟩ := capM F3
  refine' iterL (J := fun i m' n' => n' = ((ig, io) :: rdObjs w.params t1 t2 t3 x dx S l ig n (set0 led) (W.listOf [Value.str d td].toArray epd) news) ∧
      (i = 0 → m' = m0) ∧ (i ≠ 0 → m' = (fun y => if y = Str.ofString "d" then some (.str d td) else m0 y) ∧ PySem.Txt.startswith fn (d ++ Str.ofString "/") = false)) (vs := [Value.str d td]) (lo := W.listOf [Value.str d td].toArray epd) (ep := epd) rfl F0 N3 ?hm rfl rfl ?h0 ?hJ ?turn ?done
  case hm => k_mem
  case h0 => exact ⟨rfl, fun _ => rfl, fun h => absurd rfl h⟩
  case hJ =>
    rintro i m' n' ⟨rfl, _⟩
    k_mem
  case turn =>
    rintro I i v m₁ news₁ it h tk hvi ⟨rfl, hm1, hm2⟩ hit hne F₁ N₁
    have hi0 : i = 0 := by
      cases i with
      | zero => rfl
      | succ i => simp at hvi
    subst hi0
    have hv0 : v = .str d td := by simpa using hvi.symm
    subst hv0
    obtain rfl := hm1 rfl
    subst hm0
    have hne2 := neAll_of hne
    simp only [NeAll] at hne2
    k_steps
    · dsimp only [MTurn]
      k_steps
      have eV : verdF d fn = true := by unfold verdF; simp_all
      rw [eV] at ret
      refine' ret _ _ _ _ _ ?r1 ?r2 ?r3
      case r1 => assumption
      case r2 => exact News.sub (by assumption) (by walk_at "mine sub2")
      case r3 => assumption
    · refine' TurnEnd.intro ?tF ?tN ?tn ?tJ
      case tF => assumption
      case tN => assumption
      case tn => exact hne
      case tJ => exact ⟨rfl, fun h => absurd h (by omega), fun _ => ⟨rfl, by assumption⟩⟩
  case done =>
    rintro h' tk m' news' F₁ N₁ ⟨rfl, _, hm1⟩
    obtain ⟨rfl, hst⟩ := hm1 (by simp)
    subst hm0
    k_steps
    have eV : verdF d fn = false := by unfold verdF; simp_all
    rw [eV] at ret
    exact ret _ _ _ _ _ (by assumption) (by assumption) (by assumption)

theorem c_namesHit {x dx S l ig : Nat} {io : Obj} {kvs : List (Str × Value)} {t1 t2 t3 : Tok} {n : Nat} {so lob : Obj} {fv v : Value} {mn : Str} {tn : Tok} (B : Below A₀ base outer h₀) (F : Fr h₀ L s.heap m) (X : (Mine.hd.heap_1 w.params).In h₀)
    (N : News h₀ L s.heap ((ig, io) :: rdObjs w.params t1 t2 t3 x dx S l ig n (so) (lob) news))
    (T : Top p loose mean mg mb h₀) (hk : cs.kind = .function)
    (hsep : ∀ p ∈ rdObjs w.params t1 t2 t3 x dx S l ig n (so) (lob) news, p.1 ≠ ig) (lo : (ig == sysModules) = false)
    (hD : io.IsDictOf (PySem.strKind PySem.Challenge.rw_pg0172_01.row.prog w) kvs) (hz : kvs.length ≤ 100000) (hv : valueAt kvs mn = some v)
    (hd : dp + 20 < recursionLimit) (hu : un + 100 < cLine) 
    (ret : ∀ (h' : Heap) (tk' : Nat), Fr h₀ L h' m → News h₀ L h' ((ig, io) :: rdObjs w.params t1 t2 t3 x dx S l ig n so lob news) → Q v { s with heap := h', toks := tk' }) :
    wpAny (model PySem.Challenge.rw_pg0172_01.row.prog w) (ktrTop dp un gd cn cs L a ccd cl outer) (call (.ref 118) [.ref x, fv, .str mn tn]) Q E s := by
  have hsep2 := neAll_of hsep
  simp only [NeAll] at hsep2
  refine wpAny_call ?_
  k_dflt cell_enter
  k_steps
  exact ret _ _ (by assumption) (by assumption)
end
end
section
open PySem PySem.W PyProof.Rows
set_option maxRecDepth 100000
set_option maxHeartbeats 8000000
theorem fill9 : PySem.Challenge.rw_pg0172_01 = PySem.Challenge.rw_pg0172_01 ∧ Mine.hd.heap_1 = Mine.hd.heap_1 := by
  w_top off
  k_fill
  exact ⟨rfl, rfl⟩

section
variable {w : World} {p : Program} {loose : List Str} {mean : ExcName → Option Value} {mg mb : Str → Option Value}
  {dp un : Nat} {gd : Option (List Code)} {cn : Str} {cs : Scope} {a : Addr} {ccd : Value} {cl : List (Str × Addr)} {outer : List Env} {A₀ : Around} {base h₀ : Heap} {L : Addr} {m : Str → Option Value} {s : Shared} {Q E : Value → Shared → Prop} {news : List (Addr × Obj)}

local macro_rules | `(tactic| walk_at "exec For") => `(tactic| (k_here; (rename Fr _ _ _ _ => lF'); (with_unfolding_all refine' forL lF' ?hx ?hp ?_; (case hx => rfl); (case hp => rfl); k_whole)))
local macro_rules | `(tactic| walk_at "pyIter ref") => `(tactic| (refine Stop.to ?_))
theorem c_splitroot {d : Str} {td : Tok} (B : Below A₀ base outer h₀) (F : Fr h₀ L s.heap m) (X : (Mine.hd.heap_1 w.params).In h₀) (N : News h₀ L s.heap news) (T : Top p loose mean mg mb h₀) (hk : cs.kind = .function)
    (hd : dp + 20 < recursionLimit) (hu : un + 100 < cLine) (hx : d.length ≤ 100000) (hx1 : 1 ≤ d.length) (hq1 : (PySem.Txt.slice d none (some 1) != Str.ofString "/") = false) (hq2 : (PySem.Txt.slice d (some 1) (some 2) != Str.ofString "/") = true)
    (ret : ∀ (h' : Heap) (tk' t1 t2 t3 : Nat) (r : Addr), Fr h₀ L h' m → News h₀ L h' ((r, { cls := .type "tuple", data := .seq #[.str (Str.ofString "") t1, .str (Str.ofString "/") t2, .str (PySem.Txt.slice d (some 1) none) t3] }) :: news) → (∀ p ∈ news, p.1 < r) → Q (.ref r) { s with heap := h', toks := tk' }) :
    wpAny (model PySem.Challenge.rw_pg0172_01.row.prog w) (ktrTop dp un gd cn cs L a ccd cl outer) (call (.ref 84) [.str d td]) Q E s := by
  refine wpAny_call ?_
  k_dflt cell_enter
  k_steps
  refine' ret _ _ _ _ _ _ ?r1 ?r2 ?r3
  case r1 => assumption
  case r2 => assumption
  case r3 => assumption
local macro_rules | `(tactic| walk_at "call ref") => `(tactic| (k_here; k_dflt (refine' c_splitroot _ _ _ _ _ _ _ _ _ _ _ _ ?_; walk_at "cc"); walk_at "il"))
local macro_rules | `(tactic| walk_at "binaryOp Add str str") => `(tactic| (refine add_str (fun _ _ => ?_) ?asz; (case asz => (first | (rw [sizeLine_eq]; (simp only [show (Str.ofString "/").length = 1 from by decide]); omega) | (rw [sizeLine_eq]; omega)))))
local macro_rules | `(tactic| walk_at "call builtin:str.join") => `(tactic| (k_here; k_dflt (refine' joinV _ _ _ _ _ ?_; walk_at "cc"); intros))
theorem c_normpath0 {d : Str} {td : Tok} (B : Below A₀ base outer h₀) (F : Fr h₀ L s.heap m) (X : (Mine.hd.heap_1 w.params).In h₀) (N : News h₀ L s.heap news) (T : Top p loose mean mg mb h₀) (hk : cs.kind = .function)
    (hd : dp + 40 < recursionLimit) (hu : un + 200 < cLine) (hx : d.length ≤ 100000) (hx1 : 1 ≤ d.length) (hq1 : (PySem.Txt.slice d none (some 1) != Str.ofString "/") = false) (hq2 : (PySem.Txt.slice d (some 1) (some 2) != Str.ofString "/") = true)
    (comps : List Str) (hsp : PySem.Txt.split (PySem.Txt.slice d (some 1) none) (Str.ofString "/") = comps ++ [Str.ofString "."]) (hcs : ∀ c ∈ comps, 1 ≤ c.length ∧ c ≠ Str.ofString "." ∧ c ≠ Str.ofString "..") (hcn : comps.length ≤ 100000) (hcl : ∀ c ∈ comps, c.length ≤ 100000)
    (hok : (comps.map (·.length)).sum + comps.length * 64 ≤ 1000000)
    (ret : ∀ (h' : Heap) (tk' t : Nat), Fr h₀ L h' m → News h₀ L h' news → Q (.str (Str.ofString "/" ++ PySem.Txt.join (Str.ofString "/") comps) t) { s with heap := h', toks := tk' }) :
    wpAny (model PySem.Challenge.rw_pg0172_01.row.prog w) (ktrTop dp un gd cn cs L a ccd cl outer) (call (.ref 91) [.str d td]) Q E s := by
  refine wpAny_call ?_
  k_dflt cell_enter
  k_steps
  · rename News _ _ _ _ => NN
    rename Fr _ _ _ _ => FF
    rename List.map _ _ = _ => hsl
    obtain ⟨sl, rfl, hsl⟩ := capS hsl
    rw [hsp] at hsl
    obtain ⟨m0, hm0, F0⟩ := capM FF
    unfold Stop
    obtain ⟨nl, o1, ca, r1, rfl, ho1, hca, hr1, N1⟩ := cap3 NN
    subst ho1
    rw [← hca]
    have hca2 : @Eq Nat ca _ := hca
    have hsn : sl.length = comps.length + 1 := by
      have := congrArg List.length hsl
      simpa using this
    rename StrsAre _ _ => hsa
    refine iterL (ax := ca) (lo := { cls := .type "list", data := .seq (strValues sl).toArray }) (vs := strValues sl) (ep := 0) (fun i m' n' => ∃ uc ep, m' = (fun z => if z = Str.ofString "comp" then uc else m0 z) ∧
      n' = (nl, W.listOf ((strValues sl).take (min i comps.length)).toArray ep) :: (ca, { cls := .type "list", data := .seq (strValues sl).toArray }) :: r1) rfl F0 N1 ?hm rfl rfl ?h0 ?hJ ?turn ?done
    case hm => k_mem
    case h0 => exact ⟨_, 0, map1 m0 _, by simp⟩
    case hJ =>
      rintro i m' n' ⟨uc, ep, rfl, rfl⟩
      k_mem
    case turn =>
      rintro I i v m₁ news₁ it h tk hvi ⟨uc, ep, rfl, rfl⟩ hit hne F₁ N₁
      subst hm0 hr1
      have hne2 := neAll_of hne
      simp only [NeAll] at hne2
      obtain ⟨⟨c, t⟩, hct, rfl⟩ : ∃ p : Str × Tok, sl[i]? = some p ∧ v = .str p.1 p.2 := by
        simp only [strValues, List.getElem?_map] at hvi
        cases hq : sl[i]? with
        | none => rw [hq] at hvi; cases hvi
        | some p => rw [hq] at hvi; exact ⟨p, rfl, (Option.some.inj hvi).symm⟩
      have hci : (comps ++ [Str.ofString "."])[i]? = some c := by rw [← hsl, List.getElem?_map, hct]; rfl
      have hlen : ((strValues sl).take (min i comps.length)).length ≤ 1000000 := by
        rw [List.length_take]; omega
      by_cases hin : i < comps.length
      · have hcm : c ∈ comps := by
          rw [List.getElem?_append_left hin] at hci
          exact List.mem_of_getElem? hci
        obtain ⟨c1, c2, c3⟩ := hcs c hcm
        have c4 : (c == Str.ofString ".") = false := by simpa using c2
        have c5 : (c != Str.ofString "..") = true := by simpa using c3
        have c6 : c.length ≤ 100000 := hcl c hcm
        have eT : (strValues sl).take (min i comps.length) ++ [Value.str c t] = (strValues sl).take (min (i + 1) comps.length) := by
          have hvi' : (strValues sl)[i]? = some (Value.str c t) := by simp only [strValues, List.getElem?_map, hct]; rfl
          have e1 : min i comps.length = i := by omega
          have e2 : min (i + 1) comps.length = i + 1 := by omega
          rw [e1, e2, List.take_add_one, hvi']
          rfl
        k_steps
        all_goals (first | (exfalso; omega) | skip)
        all_goals (
          dsimp only [MTurn]
          refine' TurnEnd.intro ?tF ?tN ?tn ?tJ
          case tF => assumption
          case tN => assumption
          case tJ => exact ⟨_, _, map1_up (a := Str.ofString "comp"), by rw [eT]⟩
          case tn => k_all)
      · have hcd : c = Str.ofString "." := by
          have : i = comps.length := by
            have := (List.getElem?_eq_some_iff.mp hci).1
            simp at this
            omega
          subst this
          simpa using hci.symm
        have c4 : (c == Str.ofString ".") = true := by rw [hcd]; rfl
        have c1 : 1 ≤ c.length := by rw [hcd]; decide
        have c6 : c.length ≤ 100000 := by rw [hcd]; decide
        clear hcd
        have eT : min (i + 1) comps.length = min i comps.length := by omega
        k_steps
        all_goals (first | (exfalso; omega) | skip)
        all_goals (
          dsimp only [MTurn]
          refine' TurnEnd.intro ?tF ?tN ?tn ?tJ
          case tF => assumption
          case tN => assumption
          case tJ => exact ⟨_, _, map1_up (a := Str.ofString "comp"), by rw [eT]⟩
          case tn => exact hne)
    case done =>
      rintro h' tk m' news' F₁ N₁ ⟨uc, ep, rfl, rfl⟩
      subst hm0 hr1
      have hfin : StrsAre ((strValues sl).take (min (strValues sl).length comps.length)) comps := by
        have e1 : min (strValues sl).length comps.length = comps.length := by simp [strValues]; omega
        have h1 := strsAre_take hsa comps.length
        rw [hsl, List.take_left] at h1
        rw [e1]
        exact h1
      have hjl : (PySem.Txt.join (Str.ofString "/") comps).length ≤ 1000000 := by
        have h1 := tjoin_len (Str.ofString "/") comps
        have h2 : (Str.ofString "/").length = 1 := by decide
        rw [h2] at h1
        omega
      have hj1 : (Str.ofString "/" ++ PySem.Txt.join (Str.ofString "/") comps).length = 1 + (PySem.Txt.join (Str.ofString "/") comps).length := by
        rw [Str.length_append]
        have h2 : (Str.ofString "/").length = 1 := by decide
        rw [h2]
      k_steps
      all_goals (first | (exfalso; omega) | skip)
      all_goals exact ret _ _ _ (by assumption) (News.sub (by assumption) (by walk_at "mine sub2"))
  · exfalso; omega
end
end
section
open PySem PySem.W PyProof.Rows
set_option maxRecDepth 100000
set_option maxHeartbeats 8000000
theorem fill12 : PySem.Challenge.rw_pg0172_01 = PySem.Challenge.rw_pg0172_01 ∧ Mine.hd.heap_1 = Mine.hd.heap_1 := by
  w_top off
  k_fill
  exact ⟨rfl, rfl⟩

section
variable {w : World} {p : Program} {loose : List Str} {mean : ExcName → Option Value} {mg mb : Str → Option Value}
  {dp un : Nat} {gd : Option (List Code)} {cn : Str} {cs : Scope} {a : Addr} {ccd : Value} {cl : List (Str × Addr)} {outer : List Env} {A₀ : Around} {base h₀ : Heap} {L : Addr} {m : Str → Option Value} {s : Shared} {Q E : Value → Shared → Prop} {news : List (Addr × Obj)}

local macro_rules | `(tactic| walk_at "call ref") => `(tactic| refine Stop.to ?_)
local macro_rules | `(tactic| walk_at "call ref") => `(tactic| (k_here; k_dflt (refine' c_normpath0 _ _ _ _ _ _ _ _ _ _ _ _ _ _ _ _ _ _ ?_; walk_at "cc"; intros)))
theorem c_normpath {d : Str} {td : Tok} (B : Below A₀ base outer h₀) (F : Fr h₀ L s.heap m) (X : (Mine.hd.heap_1 w.params).In h₀) (N : News h₀ L s.heap news) (T : Top p loose mean mg mb h₀) (hk : cs.kind = .function)
    (hd : dp + 60 < recursionLimit) (hu : un + 300 < cLine) (hx : d.length ≤ 100000) (hx1 : 1 ≤ d.length) (hq1 : (PySem.Txt.slice d none (some 1) != Str.ofString "/") = false) (hq2 : (PySem.Txt.slice d (some 1) (some 2) != Str.ofString "/") = true)
    (comps : List Str) (hsp : PySem.Txt.split (PySem.Txt.slice d (some 1) none) (Str.ofString "/") = comps ++ [Str.ofString "."]) (hcs : ∀ c ∈ comps, 1 ≤ c.length ∧ c ≠ Str.ofString "." ∧ c ≠ Str.ofString "..") (hcn : comps.length ≤ 100000) (hcl : ∀ c ∈ comps, c.length ≤ 100000)
    (hok : (comps.map (·.length)).sum + comps.length * 64 ≤ 1000000)
    (ret : ∀ (h' : Heap) (tk' t : Nat), Fr h₀ L h' m → News h₀ L h' news → Q (.str (Str.ofString "/" ++ PySem.Txt.join (Str.ofString "/") comps) t) { s with heap := h', toks := tk' }) :
    wpAny (model PySem.Challenge.rw_pg0172_01.row.prog w) (ktrTop dp un gd cn cs L a ccd cl outer) (call (.ref 98) [.str d td]) Q E s := by
  refine wpAny_call ?_
  k_dflt (refine' kp_both ?k1 ?k2 ?k3 ?k4 ?k5 ?kA ?kF ?kK ?k6 ?k7 ?k8 ?kV ?kX ?kQ ?kM ?kN ?kD ?kR ?kP ?kS ?kT ?kB ?_ ?c2 ?c3 ?c4 ?c5; (case kA => exact rfl); (case kF => exact rfl); (case kK => assumption); (case k1 => k_asm); (case k2 => k_asm); (case k3 => k_asm); (case k4 => k_asm); (case k5 => k_asm); (case k6 => k_is); (case k7 => k_is); (case k8 => ktr_room); (case kV => kp_lit); (case kX => kp_lit); (case kQ => exact rfl); (case kM => exact rfl); (case kN => exact rfl); (case kD => kp_flats); (case kR => exact rfl); (case kP => exact rfl); (case kS => exact fun _ => rfl); (case kT => exact fun _ _ => rfl); (case kB => exact fun _ _ => locs rfl); (case c5 => decide); (case c2 => exact rfl); (case c3 => exact rfl); (case c4 => exact rfl); k_whole; intro C' D' o' g' L' h' tk' l1 l2 lo' hs' fs' FG' F' N' B' X' T'; (try k_lt l1); (try k_lt2 l2); (try dsimp only); (try k_lift B'); (try k_fold))
  k_steps
  all_goals unfold Stop
  all_goals (k_here; k_dflt (refine wpAny_call ?_; (refine' code_def ?k1Y1 ?k2Y1 ?k3Y1 ?k4Y1 ?k5Y1 ?kAY1 ?kFY1 ?kKY1 ?k6Y1 ?k7Y1 ?k8Y1 ?k9Y1 ?kBY1 ?_ ?c2Y1 ?c3Y1 ?c4Y1 ?c5Y1; (case kAY1 => exact rfl); (case kFY1 => exact rfl); (case kKY1 => exact rfl); (case k1Y1 => k_asm); (case k2Y1 => k_asm); (case k3Y1 => k_asm); (case k4Y1 => k_asm); (case k5Y1 => k_asm); (case k6Y1 => k_is); (case k7Y1 => k_is); (case k8Y1 => ktr_room); (case k9Y1 => exact BindsTo.of_eq rfl); (case c5Y1 => decide); (case kBY1 => exact locs rfl); (case c2Y1 => exact rfl); (case c3Y1 => exact rfl); (case c4Y1 => exact rfl); k_whole; intro g' L' h' FG' F' N' B' X' T'; (try dsimp only); (try k_lift B'); (try k_fold))))
  all_goals k_steps
  all_goals unfold Stop
  all_goals (k_here; k_dflt (refine wpAny_call ?_; (refine' code_def ?k1Y2 ?k2Y2 ?k3Y2 ?k4Y2 ?k5Y2 ?kAY2 ?kFY2 ?kKY2 ?k6Y2 ?k7Y2 ?k8Y2 ?k9Y2 ?kBY2 ?_ ?c2Y2 ?c3Y2 ?c4Y2 ?c5Y2; (case kAY2 => exact rfl); (case kFY2 => exact rfl); (case kKY2 => exact rfl); (case k1Y2 => k_asm); (case k2Y2 => k_asm); (case k3Y2 => k_asm); (case k4Y2 => k_asm); (case k5Y2 => k_asm); (case k6Y2 => k_is); (case k7Y2 => k_is); (case k8Y2 => ktr_room); (case k9Y2 => exact BindsTo.of_eq rfl); (case c5Y2 => decide); (case kBY2 => exact locs rfl); (case c2Y2 => exact rfl); (case c3Y2 => exact rfl); (case c4Y2 => exact rfl); k_whole; intro g' L' h' FG' F' N' B' X' T'; (try dsimp only); (try k_lift B'); (try k_fold))))
  all_goals k_steps
  all_goals exact ret _ _ _ (by assumption) (News.sub (by assumption) (by walk_at "mine sub2"))
end
end
section
open PySem PySem.W PyProof.Rows
set_option maxRecDepth 100000
set_option maxHeartbeats 8000000
theorem fillL9 : PySem.Challenge.rw_pg0172_01 = PySem.Challenge.rw_pg0172_01 ∧ Mine.hd.heap_1 = Mine.hd.heap_1 := by
  w_top off
  k_fill
  exact ⟨rfl, rfl⟩

section
variable {w : World} {p : Program} {loose : List Str} {mean : ExcName → Option Value} {mg mb : Str → Option Value}
  {dp un : Nat} {gd : Option (List Code)} {cn : Str} {cs : Scope} {a : Addr} {ccd : Value} {cl : List (Str × Addr)} {outer : List Env} {A₀ : Around} {base h₀ : Heap} {L : Addr} {m : Str → Option Value} {s : Shared} {Q E : Value → Shared → Prop} {news : List (Addr × Obj)}

local macro_rules | `(tactic| walk_at "truthy ref") => `(tactic| (k_here; k_dflt (refine' truthyCons _ _ _ ?_; walk_at "cc"); intros))
local macro_rules | `(tactic| walk_at "call type:set cons nil") => `(tactic| (k_here; k_dflt (refine' newSetStr_N _ _ _ _ ?_; walk_at "cc"); walk_at "il"))
local macro_rules | `(tactic| walk_at "call ref") => `(tactic| (k_here; k_dflt (refine' c_normpath _ _ _ _ _ _ _ ?hu _ _ _ _ _ _ _ _ _ _ ?_; (case hu => first | ktr_units | ((try simp only [units_under_make, units_deeper, units_in1] at *); (try dsimp only [ktrTop] at *); omega)); walk_at "cc"; intros)))
def Apart5 (dx x S l ig q : Nat) : Prop := @Ne Nat q dx ∧ @Ne Nat q x ∧ @Ne Nat q S ∧ @Ne Nat q l ∧ @Ne Nat q ig
theorem off1_all {D : Addr} (l : List (Addr × Obj)) (h : LCg.Off1 D l) : ∀ p ∈ l, @Ne Nat p.1 D := by
  induction l with
  | nil => intro p hp; cases hp
  | cons q r ih =>
    intro p hp
    rcases List.mem_cons.mp hp with e | e
    · rw [e]; exact h.1
    · exact ih h.2 p e
theorem off_tail {D a b c : Addr} {q : Addr × Obj} {r : List (Addr × Obj)} (h : (@Ne Nat a D) ∧ (@Ne Nat b D) ∧ (@Ne Nat c D) ∧ (@Ne Nat q.1 D) ∧ LCg.Off1 D r) : LCg.Off1 D (q :: r) := h.2.2.2
theorem apart_of {dx x S l ig : Nat} {news : List (Addr × Obj)} (h1 : ∀ p ∈ news, @LT.lt Nat _ p.1 dx) (a : @LT.lt Nat _ dx x) (b : @LT.lt Nat _ x S) (h2 : ∀ p ∈ news, @Ne Nat p.1 l) (c : @LT.lt Nat _ S ig) : ∀ p ∈ news, Apart5 dx x S l ig p.1 := by
  intro p hp
  have := h1 p hp
  have := h2 p hp
  unfold Apart5
  refine ⟨?_, ?_, ?_, ?_, ?_⟩ <;> first | assumption | (intro e; omega)
theorem newsPerm {h₀ h : Heap} {L : Addr} {a b c d e : Addr × Obj} {r : List (Addr × Obj)} (N : News h₀ L h (a :: b :: c :: d :: e :: r)) : News h₀ L h (a :: d :: e :: c :: b :: r) := by
  intro p hp
  refine N p ?_
  simp only [List.mem_cons] at hp ⊢
  rcases hp with h | h | h | h | h | h <;> simp [h]
theorem compEndAll {h₀ : Heap} {L I C D : Addr} {m : Str → Option Value} {s₁ : Shared} {oI oC oD : Obj} {S : List (Addr × Obj) → Prop} {rest : Value → List (Addr × Obj) → Prop} {y : Value} {h' : Heap} {tk : Nat} {news' : List (Addr × Obj)}
    (F : Fr h₀ L h' m) (N : News h₀ L h' ((I, oI) :: (C, oC) :: (D, oD) :: news')) (off : LCg.Off3 I C D news') (hS : S news') (r : rest y news') : LCg.CompEnd h₀ L m s₁ I oI C oC D oD S rest y { s₁ with heap := h', toks := tk } :=
  LCg.CompEnd.intro F N news' (fun _ h => h) off hS r
local macro_rules | `(tactic| walk_at "CompEnd") => `(tactic| (refine' compEndAll ?cF ?cN ?cO ?cH ?_; (case cF => k_asm); (case cN => assumption); (case cO => first | assumption | (simp only [LCg.Off3, and_true]; assumption)); (case cH => lcg_src)))
theorem c_readerF {lst ep : Nat} {d : Str} {td : Tok} (B : Below A₀ base outer h₀) (F : Fr h₀ L s.heap m) (X : (Mine.hd.heap_1 w.params).In h₀) (N : News h₀ L s.heap ((lst, W.listOf [Value.str d td].toArray ep) :: news)) (T : Top p loose mean mg mb h₀) (hk : cs.kind = .function)
    (hd : dp + 100 < recursionLimit) (hu : un + 500 < cLine) (hx : d.length ≤ 100000) (hx1 : 1 ≤ d.length) (hq1 : (PySem.Txt.slice d none (some 1) != Str.ofString "/") = false) (hq2 : (PySem.Txt.slice d (some 1) (some 2) != Str.ofString "/") = true)
    (comps : List Str) (hsp : PySem.Txt.split (PySem.Txt.slice d (some 1) none) (Str.ofString "/") = comps ++ [Str.ofString "."]) (hcs : ∀ c ∈ comps, 1 ≤ c.length ∧ c ≠ Str.ofString "." ∧ c ≠ Str.ofString "..") (hcn : comps.length ≤ 100000) (hcl : ∀ c ∈ comps, c.length ≤ 100000)
    (hok : (comps.map (·.length)).sum + comps.length * 64 ≤ 1000000)
    (ret : ∀ (h' : Heap) (tk' t tr t1 t2 t3 n epd : Nat) (led : Bool) (x dx S l ig : Addr) (io : Obj), Fr h₀ L h' m → News h₀ L h' ((ig, io) :: rdObjs w.params t1 t2 t3 x dx S l ig n (set0 led) (W.listOf [Value.str (Str.ofString "/" ++ PySem.Txt.join (Str.ofString "/") comps) tr].toArray epd) ((lst, W.listOf [Value.str d td].toArray ep) :: news)) →
      io.IsDictOf (PySem.strKind PySem.Challenge.rw_pg0172_01.row.prog w) [(Str.ofString "<string>", .int 1 t)] → (ig == sysModules) = false → (∀ p ∈ (lst, W.listOf [Value.str d td].toArray ep) :: news, Apart5 dx x S l ig p.1) → (@Ne Nat dx ig ∧ @Ne Nat x ig ∧ @Ne Nat S ig ∧ @Ne Nat l ig) → Q (.ref x) { s with heap := h', toks := tk' }) :
    wpAny (model PySem.Challenge.rw_pg0172_01.row.prog w) (ktrTop dp un gd cn cs L a ccd cl outer) (call (.ref 121) [.none, .ref lst]) Q E s := by
  k_dflt (refine' call_cls ?k1 ?k2 ?k3 ?k4 ?k5 ?k6 ?_; (case k1 => k_asm); (case k2 => k_asm); (case k3 => k_asm); (case k4 => k_is); (case k5 => k_is); (case k6 => k_is); k_whole; intro x' d' h' F' N' l1 l2; (try k_lt l1); (try k_lt2 l2); (try k_sweep))
  k_dflt (refine' code_def ?k1 ?k2 ?k3 ?k4 ?k5 ?kA ?kF ?kK ?k6 ?k7 ?k8 ?k9 ?kB ?_ ?c2 ?c3 ?c4 ?c5; (case kA => exact rfl); (case kF => exact rfl); (case kK => assumption); (case k1 => k_asm); (case k2 => k_asm); (case k3 => k_asm); (case k4 => k_asm); (case k5 => k_asm); (case k6 => k_is); (case k7 => k_is); (case k8 => (simp only [depth_under_make]; omega)); (case k9 => first | exact BindsTo.of_eq rfl | exact binds_K (by k_in) rfl (by k_is) rfl rfl rfl); (case c5 => decide); (case kB => exact locs rfl); (case c2 => exact rfl); (case c3 => exact rfl); (case c4 => exact rfl); k_whole; intro g' L' h' FG' F' N' B' X' T'; (try dsimp only); (try k_lift B'); (try k_fold))
  k_steps
  refine' ret _ _ _ _ _ _ _ _ _ _ _ _ _ _ _ _ ?r1 ?r2 ?r3 ?r4 ?r5 ?r6
  case r1 => assumption
  case r2 => (refine' newsPerm ?rN; (case rN => assumption))
  case r3 => assumption
  case r4 => assumption
  case r5 => (refine' apart_of ?a1 ?a2 ?a3 ?a4 ?a5; (case a1 => assumption); (case a2 => omega); (case a3 => omega); (case a4 => exact off1_all _ (off_tail (by assumption))); (case a5 => omega))
  case r6 => (refine ⟨?_, ?_, ?_, ?_⟩ <;> omega)
end
end
section
open PySem PySem.W PyProof.Rows
section
variable {mm : Int} {Wd : Nat} {ns : List Int}
end
def M6 (m0 : Str → Option Value) : List (Str × Option Value) → Str → Option Value
  | [], z => m0 z
  | p :: r, z => if z = p.1 then p.2 else M6 m0 r z
theorem mapL_eq {m m0 : Str → Option Value} : ∀ (l : List (Str × Option Value)), (∀ z, (∀ p ∈ l, z ≠ p.1) → m z = m0 z) → (∀ p ∈ l, m p.1 = p.2) → m = M6 m0 l := by
  intro l hoff hon
  funext z
  have key : ∀ (k : List (Str × Option Value)), (∀ p ∈ k, m p.1 = p.2) → ((∀ p ∈ k, z ≠ p.1) → m z = m0 z) → m z = M6 m0 k z := by
    intro k
    induction k with
    | nil => intro _ h; exact h (fun p hp => nomatch hp)
    | cons q k ih =>
      intro h1 h2
      show m z = if z = q.1 then q.2 else M6 m0 k z
      by_cases hz : z = q.1
      · rw [if_pos hz, hz]; exact h1 q (.head _)
      · rw [if_neg hz]
        refine ih (fun p hp => h1 p (.tail _ hp)) fun h3 => h2 fun p hp => ?_
        rcases List.mem_cons.mp hp with rfl | hp
        · exact hz
        · exact h3 p hp
  exact key l hon (hoff z)
end
section
open PySem PySem.W PyProof.Rows
section
variable {prog : Program} {w : World} {A : Around} {E : Value → Shared → Prop} {s s' : Shared} {h₀ : Heap} {L I : Addr} {it : Obj} {env : Env} {body : List Stmt}
theorem forGen {J : (Str → Option Value) → List (Addr × Obj) → Prop} {Q : Flow → Shared → Prop}
    (h : ∀ (J' : (Str → Option Value) → List (Addr × Obj) → Prop) (Q' : Flow → Shared → Prop), (∀ m n, J m n → J' m n) → (∀ f s, Q f s → Q' f s) →
      wpAny (model prog w) A (execs body env) (MTurn h₀ L I it J' s Q') E s') :
    wpAny (model prog w) A (execs body env) (MTurn h₀ L I it J s Q) E s' := h J Q (fun _ _ h => h) (fun _ _ h => h)
end
section
variable {M : Model} {A : Around} {E : Value → Shared → Prop} {s : Shared} {h₀ : Heap} {L a : Addr} {m : Str → Option Value} {cn : Str} {cs : Scope} {ccd : Value} {cl : List (Str × Addr)}
  {x : Str} {news : List (Addr × Obj)}
end
inductive StopIf : Prop where
  | yes : StopIf
def setL : List (Str × Option Value) → Str → Option Value → List (Str × Option Value)
  | [], a, v => [(a, v)]
  | p :: r, a, v => if p.1 = a then (a, v) :: r else p :: setL r a v
theorem upd_setL {m0 : Str → Option Value} {a : Str} {v : Option Value} : ∀ l : List (Str × Option Value), (fun z => if z = a then v else M6 m0 l z) = M6 m0 (setL l a v)
  | [] => rfl
  | p :: r => by
    funext z
    show (if z = a then v else if z = p.1 then p.2 else M6 m0 r z) = M6 m0 (if p.1 = a then (a, v) :: r else p :: setL r a v) z
    have ih := congrFun (upd_setL (m0 := m0) (a := a) (v := v) r) z
    by_cases h : p.1 = a
    · rw [if_pos h]
      show _ = if z = a then v else M6 m0 r z
      by_cases hz : z = a
      · rw [if_pos hz, if_pos hz]
      · rw [if_neg hz, if_neg hz, if_neg (by rw [h]; exact hz)]
    · rw [if_neg h]
      show _ = if z = p.1 then p.2 else M6 m0 (setL r a v) z
      rw [← ih]
      by_cases hz : z = a
      · have hz2 : ¬ z = p.1 := fun e => h (e ▸ hz)
        rw [if_pos hz, if_neg hz2, if_pos hz]
      · rw [if_neg hz]
        by_cases hz2 : z = p.1
        · rw [if_pos hz2, if_pos hz2]
        · rw [if_neg hz2, if_neg hz2, if_neg hz]
section
variable {M : Model} {A : Around} {E : Value → Shared → Prop} {s : Shared} {h₀ : Heap} {L a : Addr} {m0 : Str → Option Value} {l : List (Str × Option Value)} {cn : Str} {cs : Scope} {ccd : Value} {cl : List (Str × Addr)}
  {x : Str} {news : List (Addr × Obj)}
theorem storeIntS {n : Int} {t : Tok} {Q : Unit → Shared → Prop} (F : Fr h₀ L s.heap (M6 m0 l)) (N : News h₀ L s.heap news)
    (h : ∀ (h' : Heap) (t' : Tok) (tk' : Nat), Fr h₀ L h' (M6 m0 (setL l x (some (.int n t')))) → News h₀ L h' news → Q () { s with heap := h', toks := tk' })
    (hk : cs.kind = .function := by rfl) (hx : (envX cn cs L a ccd cl).kindOf x = some .local := by rfl) : wpAny M A (storeName (envX cn cs L a ccd cl) x (.int n t)) Q E s :=
  storeX_L F N (fun h' F' N' => h h' t (s.toks + 1) (upd_setL l ▸ F') N') hk hx
theorem storeS {v : Value} {Q : Unit → Shared → Prop} (F : Fr h₀ L s.heap (M6 m0 l)) (N : News h₀ L s.heap news)
    (h : ∀ (h' : Heap) (tk' : Nat), Fr h₀ L h' (M6 m0 (setL l x (some v))) → News h₀ L h' news → Q () { s with heap := h', toks := tk' })
    (hk : cs.kind = .function := by rfl) (hx : (envX cn cs L a ccd cl).kindOf x = some .local := by rfl) : wpAny M A (storeName (envX cn cs L a ccd cl) x v) Q E s :=
  storeX_L F N (fun h' F' N' => h h' (s.toks + 1) (upd_setL l ▸ F') N') hk hx
end
theorem genQE {α : Type} {M : Model} {A : Around} {x : Sem α} {Q : α → Shared → Prop} {E : Value → Shared → Prop} {s : Shared} (h : ∀ (Q' : α → Shared → Prop), (∀ v s, Q v s → Q' v s) → wpAny M A x Q' (fun _ _ => False) s) : wpAny M A x Q E s :=
  wpAny_mono (h Q (fun _ _ h => h)) (fun _ _ h => h) (fun _ _ h => h.elim)
theorem M6.off {m0 : Str → Option Value} {x : Str} {v : Option Value} : ∀ {l : List (Str × Option Value)}, m0 x = v → (l.all fun p => !decide (x = p.1)) = true → M6 m0 l x = v
  | [], q, _ => q
  | p :: r, q, h => by
    rw [List.all_cons, Bool.and_eq_true, Bool.not_eq_true', decide_eq_false_iff_not] at h
    show (if x = p.1 then p.2 else M6 m0 r x) = v
    rw [if_neg h.1]
    exact M6.off q h.2
theorem Fr.upd {h₀ h : Heap} {L : Addr} {m0 : Str → Option Value} {l : List (Str × Option Value)} {x : Str} {v : Option Value} (F : Fr h₀ L h (fun y => if y = x then v else M6 m0 l y)) : Fr h₀ L h (M6 m0 (setL l x v)) := upd_setL l ▸ F
end
section
open PySem PySem.W PyProof.Rows PySem.Calls
section
variable {prog : Program} {w : World} {A : Around} {E : Value → Shared → Prop} {s : Shared} {h₀ : Heap} {L : Addr} {news : List (Addr × Obj)}
theorem itemV {value slice : PySem.Expr} {l : Addr} {vs : List Value} {ep : Nat} {k : Int} {u : Tok} {i : Nat} {v : Value} {Q : Value → Shared → Prop} (N : News h₀ L s.heap news) (hm : (l, W.listOf vs.toArray ep) ∈ news) (hk : k = (i : Int)) (hx : vs[i]? = some v) (hi : i ≤ 1000000) (h : Q v s)
    (hs : subscripted slice false (.ref l) (.int k u) = operate [.ref l, .int k u] (getItem (.ref l) (.int k u)) := by with_unfolding_all rfl) :
    wpAny (model prog w) A (subscriptTail value slice (.ref l) (.int k u)) Q E s := by
  subst hk
  have hl := News.isList N hm
  refine tail_any hl.typeIs slot_list_getitem.lookup (wpAny_getItem_list hl (by omega) (by omega) (by simpa using hx) h) hs
theorem rng_size (n : Nat) : Builtin.Range.rangeSize 0 (n : Int) 1 = ((n : Nat) : Int) := by
  simp [Builtin.Range.rangeSize]
  intro h
  simp [h]
theorem rng_small {n : Nat} (h : n ≤ 1000000) : Builtin.Range.small 0 (n : Int) 1 = true := by
  unfold Builtin.Range.small
  rw [rng_size]
  simp [Builtin.Range.rangeFitsLong]
  omega
end
end
section
open PySem PySem.W PyProof.Rows PySem.SeqAt
set_option maxRecDepth 100000
set_option maxHeartbeats 8000000
theorem vsz {vs : List Value} {ns : List Int} (h : IntsAre vs ns) (h2 : ns.length ≤ 1000000) : vs.toArray.size ≤ sizeLine := by
  rw [List.size_toArray, sizeLine_eq, h.length]; omega
section
variable {prog : Program} {w : World} {A : Around} {E : Value → Shared → Prop} {s : Shared} {h₀ : Heap} {L : Addr} {news : List (Addr × Obj)}
theorem lenV {l : Addr} {vs : List Value} {ns : List Int} {ep : Nat} {K : Nat} {Q : Value → Shared → Prop} (N : News h₀ L s.heap news) (hm : (l, W.listOf vs.toArray ep) ∈ news) (hI : IntsAre vs ns) (hK : ns.length = K) (hz : K ≤ 1000000)
    (h : ∀ t tk, Q (.int (K : Int) t) { s with toks := tk }) : wpAny (model prog w) A (call (.builtin "len") [.ref l]) Q E s := by
  have e : vs.toArray.size = K := by rw [List.size_toArray, hI.length, hK]
  refine PySem.Calls.call_len_list (News.isList N hm) (by omega) ?_
  exact e ▸ h _ _
end
theorem valEq {i j : Int} {t : Tok} (h : i = j) : some (Value.int i t) = some (Value.int j t) := by rw [h]
theorem capM2 {h₀ h : Heap} {L : Addr} {m : Str → Option Value} (F : Fr h₀ L h m) : ∃ m0, m = m0 := ⟨m, rfl⟩
theorem split_tail {P T : Prop} (main : T → P) (t : T) : P := main t
theorem ne_swap {I a : Addr} {o o' : Obj} {r : List (Addr × Obj)} (h : ∀ p ∈ (a, o) :: r, p.1 ≠ I) : ∀ p ∈ (a, o') :: r, p.1 ≠ I := fun p hp => by
  rcases List.mem_cons.mp hp with rfl | hp
  · exact h (a, o) (.head _)
  · exact h p (.tail _ hp)
theorem capN2 {h₀ h : Heap} {L : Addr} {n : List (Addr × Obj)} (N : News h₀ L h n) : ∃ n0, n = n0 := ⟨n, rfl⟩
section
variable {prog : Program} {w : World} {A : Around} {s : Shared} {h₀ : Heap} {L : Addr} {m : Str → Option Value} {env : Env}
theorem compInv {elt : Expr} {x : Str} {scope : Scope} {cl : List (Str × Addr)} {S : List (Addr × Obj) → Prop} {P : Nat → Value → Prop} {Fin : List Value → List (Addr × Obj) → Prop} {n : Nat}
    (J : Nat → List Value → List (Addr × Obj) → Prop)
    (turn : ∀ i ys news v I oI C oC D m₂ h tk (E' : Value → Shared → Prop), i < n → J i ys news → P i v → LCg.NsObj oC m₂ → m₂ x = some v → Fr h₀ L h m → News h₀ L h ((I, oI) :: (C, oC) :: (D, LCg.lst ys) :: news) → LCg.Off3 I C D news → ((@Ne Nat I C) ∧ (@Ne Nat I D) ∧ (@Ne Nat C D)) →
      wpAny (model prog w) A (eval elt (compEnvC scope cl C env)) (LCg.CompEnd h₀ L m { s with heap := h, toks := tk } I oI C oC D (LCg.lst ys) S (fun y news' => J (i + 1) (ys ++ [y]) news')) E' { s with heap := h, toks := tk })
    (fin : ∀ ys news, J n ys news → Fin ys news) : ∀ k i ys news, i + k = n → J i ys news → LCg.CompRest prog w A h₀ L m env elt x scope cl s S P Fin k i ys news := by
  intro k
  induction k with
  | zero => intro i ys news hi hj; obtain rfl : i = n := by omega
            exact LCg.CompRest.zero (fin ys news hj)
  | succ k ih =>
    intro i ys news hi hj
    refine LCg.CompRest.succ ?_
    intro v I oI C oC D m₂ h tk E' hP hC hx F N off ne
    refine wpAny_mono (turn i ys news v I oI C oC D m₂ h tk E' (by omega) hj hP hC hx F N off ne) (fun y s₂ hc => ?_) fun _ _ e => e
    obtain ⟨h', tk', news', e, F', N', off', hS', hr⟩ := hc
    exact ⟨h', tk', news', e, F', N', off', hS', ih (i + 1) _ _ (by omega) hr⟩
end
section
variable {prog : Program} {w : World} {A : Around} {E : Value → Shared → Prop} {s : Shared} {h₀ : Heap} {L R : Addr} {m : Str → Option Value} {news rest : List (Addr × Obj)}
end
theorem M6_self (m : Str → Option Value) (l : List Str) : m = M6 m (l.map fun a => (a, m a)) :=
  mapL_eq _ (fun _ _ => rfl) fun p hp => by
    obtain ⟨a, _, rfl⟩ := List.mem_map.mp hp
    rfl
section
variable {prog : Program} {w : World} {A : Around} {E : Value → Shared → Prop} {s : Shared} {h₀ : Heap} {L : Addr} {m : Str → Option Value}
end
theorem swap2 {α : Type} {a b : α} {r : List α} : ∀ p ∈ a :: b :: r, p ∈ b :: a :: r := fun p hp => by
  rcases List.mem_cons.mp hp with h | hp
  · exact .tail _ (h ▸ .head _)
  · rcases List.mem_cons.mp hp with h | hp
    · exact h ▸ .head _
    · exact .tail _ (.tail _ hp)
theorem off1_mem {D : Addr} {l : List (Addr × Obj)} : LCg.Off1 D l → ∀ p ∈ l, @Ne Nat p.1 D := by
  induction l with
  | nil => exact fun _ p hp => nomatch hp
  | cons q l ih =>
    rintro ⟨h1, h2⟩ p hp
    rcases List.mem_cons.mp hp with h | hp
    · rw [h]; exact h1
    · exact ih h2 p hp
inductive StopTold : Prop where
  | yes : StopTold
theorem stopTold : StopTold := .yes
end
section
open PySem PySem.W PyProof.Rows
def wd (b : Int) : Str := PySem.Txt.mul (Str.ofString "a") (1 + b)
theorem a_is : Str.ofString "a" = ⟨#[97]⟩ := by decide +kernel
theorem fold_rep (c : Nat) : ∀ (k : Nat) (acc : Array Nat), ((List.replicate k #[c]).foldl (· ++ ·) acc).toList = acc.toList ++ List.replicate k c
  | 0, acc => by simp
  | k + 1, acc => by
    rw [List.replicate_succ, List.foldl_cons, fold_rep c k, List.replicate_succ]
    simp
theorem wd_tl {b : Int} (h : 0 ≤ b) : tl_ (wd b) = List.replicate (1 + b).toNat 97 := by
  unfold wd PySem.Txt.mul
  rw [if_neg (by omega), a_is]
  by_cases h1 : 1 + b = 1
  · have : b = 0 := by omega
    subst this
    rfl
  · rw [if_neg (by simp [h1, Str.length])]
    show (List.foldl (· ++ ·) (#[] : Array Nat) (List.replicate (1 + b).toNat #[97])).toList = _
    rw [fold_rep]
    simp
def Mk (l : List Int) : Prop := ∀ x ∈ l, 0 ≤ x ∧ x ≤ 10
theorem wd_inj {a b : Int} (ha : 0 ≤ a) (hb : 0 ≤ b) (h : wd a = wd b) : a = b := by
  have h1 := congrArg (fun s => (tl_ s).length) h
  simp only [wd_tl ha, wd_tl hb, List.length_replicate] at h1
  omega
theorem wds_free {l : List Int} (h : Mk l) {c : Nat} (hc : c ≠ 97) : ∀ x ∈ l.map wd, c ∉ tl_ x ∧ tl_ x ≠ [] := fun x hx => by
  obtain ⟨b, hb, rfl⟩ := List.mem_map.mp hx
  rw [wd_tl (h b hb).1]
  refine ⟨fun hm => hc (List.eq_of_mem_replicate hm), fun e => ?_⟩
  have := congrArg List.length e
  simp only [List.length_replicate, List.length_nil] at this
  have := (h b hb).1
  omega
theorem map_prefix {a : List Int} : ∀ {b : List Int}, Mk a → Mk b → (a.map wd <+: b.map wd ↔ a <+: b) := by
  induction a with
  | nil => intro b _ _; simp
  | cons x a ih =>
    intro b ha hb
    cases b with
    | nil => simp
    | cons y b =>
      simp only [List.map_cons, List.cons_prefix_cons, ih (fun z hz => ha z (.tail _ hz)) (fun z hz => hb z (.tail _ hz))]
      constructor
      · rintro ⟨h1, h2⟩; exact ⟨wd_inj (ha x (.head _)).1 (hb y (.head _)).1 h1, h2⟩
      · rintro ⟨h1, h2⟩; exact ⟨by rw [h1], h2⟩
theorem map_inj {a b : List Int} (ha : Mk a) (hb : Mk b) (h : a.map wd = b.map wd) : a = b := by
  have h1 := (map_prefix ha hb).mp (by rw [h]; exact List.prefix_refl _)
  have h2 := congrArg List.length h
  simp only [List.length_map] at h2
  exact h1.eq_of_length h2
def modOf (l : List Int) : Str := PySem.Txt.join (Str.ofString ".") (l.map wd)
def dirOf (l : List Int) : Str := Str.ofString "/" ++ PySem.Txt.join (Str.ofString "/") (l.map wd)
def fileOf (l : List Int) : Str := Str.ofString "/" ++ PySem.Txt.join (Str.ofString "/") (l.map wd) ++ Str.ofString "/m.py"
theorem verdM_marks {c r : List Int} (hc : c ≠ []) (fc : Mk c) (fr : Mk r) : verdM (modOf c) (modOf r) = decide (c <+: r) := by
  unfold modOf
  rw [verdM_iff (by simpa using hc) (wds_free fc (by decide)) (wds_free fr (by decide)), decide_eq_decide, map_prefix fc fr]
theorem verdF_marks {c r : List Int} (hc : c ≠ []) (fc : Mk c) (fr : Mk r) : verdF (dirOf c) (fileOf r) = decide (c <+: r) := by
  unfold dirOf fileOf
  rw [verdF_iff (by simpa using hc) (wds_free fc (by decide)) (wds_free fr (by decide)), decide_eq_decide, map_prefix fc fr]
theorem modOf_inj {a b : List Int} (ha : Mk a) (hb : Mk b) (h : modOf a = modOf b) : a = b := by
  refine map_inj ha hb ?_
  unfold modOf at h
  rw [dot_is] at h
  exact join_inj (wds_free ha (by decide)) (wds_free hb (by decide)) h
theorem string_is : tl_ (Str.ofString "<string>") = [60, 115, 116, 114, 105, 110, 103, 62] := by decide +kernel
theorem enc_mem (c : Nat) : ∀ (l : List Str) (z : Nat), z ∈ enc c l → z = c ∨ ∃ x ∈ l, z ∈ tl_ x
  | [], z, h => by simp [enc] at h
  | x :: r, z, h => by
    simp only [enc, List.mem_append, List.mem_cons] at h
    rcases h with h | h | h
    · exact .inr ⟨x, .head _, h⟩
    · exact .inl h
    · rcases enc_mem c r z h with h | ⟨y, hy, h⟩
      · exact .inl h
      · exact .inr ⟨y, .tail _ hy, h⟩
theorem modOf_ne {l : List Int} (h : Mk l) : modOf l ≠ Str.ofString "<string>" := fun e => by
  have e1 := congrArg tl_ e
  rw [string_is] at e1
  unfold modOf at e1
  rw [dot_is] at e1
  by_cases hl : l = []
  · subst hl
    rw [tjoin] at e1
    simp [Str.join, tl_, Str.empty] at e1
  · have h2 := join_enc 46 (l.map wd) (by simpa using hl)
    have h3 : (60 : Nat) ∈ enc 46 (l.map wd) := by
      rw [← h2]
      refine List.mem_append_left _ ?_
      rw [e1]; simp
    rcases enc_mem _ _ _ h3 with h | ⟨x, hx, h⟩
    · omega
    · exact (wds_free (l := l) ‹_› (c := 60) (by decide) x hx).1 h
def KvOk (code : List Int) (kvs : List (Str × Value)) : Prop := ∀ row : List Int, Mk row → ∀ v, valueAt kvs (modOf row) = some v → ∃ t, v = .int (b01 (decide (code <+: row))) t
theorem KvOk.init {code : List Int} {t : Tok} : KvOk code [(Str.ofString "<string>", .int 1 t)] := fun row hr v h => by
  unfold valueAt at h
  rw [List.find?_cons_of_neg (by simpa using Ne.symm (modOf_ne hr))] at h
  cases h
theorem KvOk.store {code row : List Int} {kvs : List (Str × Value)} {t : Tok} (h : KvOk code kvs) (hr : Mk row) (hv : valueAt kvs (modOf row) = none) : KvOk code (stored kvs (modOf row) (.int (b01 (decide (code <+: row))) t)) := fun row' hr' v hq => by
  rw [stored_absent hv] at hq
  unfold valueAt at hq
  rw [List.find?_append] at hq
  cases e : kvs.find? (fun kv => kv.1 = modOf row') with
  | some kv =>
    rw [e] at hq
    exact h row' hr' v (by unfold valueAt; rw [e]; exact hq)
  | none =>
    rw [e] at hq
    by_cases h2 : modOf row = modOf row'
    · obtain rfl := modOf_inj hr hr' h2
      refine ⟨t, ?_⟩
      simpa using hq.symm
    · simp [h2] at hq
structure Rd where
  x : Nat
  dx : Nat
  S : Nat
  l : Nat
  ig : Nat
  n : Nat
  t1 : Nat
  t2 : Nat
  t3 : Nat
  io : Obj
  so : Obj
  lo : Obj
abbrev Rd.objs (P : Params) (r : Rd) : List (Addr × Obj) := (r.ig, r.io) :: rdObjs P r.t1 r.t2 r.t3 r.x r.dx r.S r.l r.ig r.n r.so r.lo []
def RdOk (prog : Program) (w : World) (B : Nat) (code : List Int) (n : Int) (r : Rd) : Prop :=
  (∃ kvs, r.io.IsDictOf (PySem.strKind prog w) kvs ∧ KvOk code kvs ∧ kvs.length ≤ B) ∧ (r.ig == sysModules) = false ∧
  ((n % 2 = 0 ∧ ∃ tm, r.so = set1 (ledOf w) ((PySem.strKind prog w).hash (modOf code)) (.str (modOf code) tm) ∧ r.lo = W.listOf #[] 0) ∨
   (n % 2 ≠ 0 ∧ ∃ led td epd, r.so = set0 led ∧ r.lo = W.listOf [Value.str (dirOf code) td].toArray epd))
def RdsOk (prog : Program) (w : World) (B : Nat) (f : Int → List Int) : List Rd → List Int → Prop
  | [], [] => True
  | r :: rs, n :: k => RdOk prog w B (f n) n r ∧ RdsOk prog w B f rs k
  | _, _ => False
theorem RdsOk.snoc {prog : Program} {w : World} {B : Nat} {f : Int → List Int} {r : Rd} {n : Int} (h : RdOk prog w B (f n) n r) : ∀ {rs : List Rd} {k : List Int}, RdsOk prog w B f rs k → RdsOk prog w B f (rs ++ [r]) (k ++ [n])
  | [], [], _ => ⟨h, trivial⟩
  | _ :: _, _ :: _, x => ⟨x.1, RdsOk.snoc h x.2⟩
theorem RdsOk.length {prog : Program} {w : World} {B : Nat} {f : Int → List Int} : ∀ {rs : List Rd} {k : List Int}, RdsOk prog w B f rs k → rs.length = k.length
  | [], [], _ => rfl
  | _ :: _, _ :: _, x => by simp [RdsOk.length x.2]
abbrev rdsObjs (P : Params) (rs : List Rd) : List (Addr × Obj) := rs.flatMap (Rd.objs P)
def Rd.Own (r : Rd) : Prop := @Ne Nat r.dx r.ig ∧ @Ne Nat r.x r.ig ∧ @Ne Nat r.S r.ig ∧ @Ne Nat r.l r.ig
def RdRel (P : Params) (r r' : Rd) : Prop := (∀ p ∈ r'.objs P, @Ne Nat p.1 r.ig) ∧ ∀ p ∈ r.objs P, @Ne Nat p.1 r'.ig
def RdsApart (P : Params) (rs : List Rd) (base : List (Addr × Obj)) : Prop := rs.Pairwise (RdRel P) ∧ (∀ r ∈ rs, r.Own) ∧ ∀ r ∈ rs, ∀ p ∈ base, @Ne Nat p.1 r.ig
theorem RdsApart.nil {P : Params} {base : List (Addr × Obj)} : RdsApart P [] base := ⟨List.Pairwise.nil, (fun r hr => nomatch hr), fun r hr => nomatch hr⟩
def Off5 (r : Rd) (q : Nat) : Prop := @Ne Nat q r.dx ∧ @Ne Nat q r.x ∧ @Ne Nat q r.S ∧ @Ne Nat q r.l ∧ @Ne Nat q r.ig
theorem RdsApart.snoc {P : Params} {rs : List Rd} {r : Rd} {base : List (Addr × Obj)} (h : RdsApart P rs base) (ho : r.Own) (h1 : ∀ p ∈ rdsObjs P rs, Off5 r p.1) (h2 : ∀ p ∈ base, Off5 r p.1) : RdsApart P (rs ++ [r]) base := by
  obtain ⟨a, b, c⟩ := h
  refine ⟨List.pairwise_append.mpr ⟨a, List.pairwise_singleton _ _, ?_⟩, ?_, ?_⟩
  · intro r0 hr0 r1 hr1
    rw [List.mem_singleton.mp hr1]
    have hin : ∀ p ∈ r0.objs P, p ∈ rdsObjs P rs := fun p hp => List.mem_flatMap.mpr ⟨r0, hr0, hp⟩
    refine ⟨fun p hp => ?_, fun p hp => (h1 p (hin p hp)).2.2.2.2⟩
    obtain ⟨q1, q2, q3, q4, q5⟩ := h1 (r0.ig, r0.io) (hin _ (.head _))
    simp only [Rd.objs, List.mem_cons, List.not_mem_nil, or_false] at hp
    rcases hp with e | e | e | e | e <;> subst e
    · exact Ne.symm q5
    · exact Ne.symm q2
    · exact Ne.symm q1
    · exact Ne.symm q3
    · exact Ne.symm q4
  · intro r0 hr0
    rcases List.mem_append.mp hr0 with h3 | h3
    · exact b r0 h3
    · rw [List.mem_singleton.mp h3]; exact ho
  · intro r0 hr0 p hp
    rcases List.mem_append.mp hr0 with h3 | h3
    · exact c r0 h3 p hp
    · rw [List.mem_singleton.mp h3]; exact (h2 p hp).2.2.2.2
theorem lenSl : (Str.ofString "/").length = 1 := by decide +kernel
theorem lenSd : (Str.ofString "/.").length = 2 := by decide +kernel
theorem lenMp : (Str.ofString "/m.py").length = 5 := by decide +kernel
theorem lenDot : (Str.ofString ".").length = 1 := by decide +kernel
end
section
open PySem PySem.W PyProof.Rows
theorem len_tl (s : Str) : s.length = (tl_ s).length := by simp [Str.length, tl_]
theorem wd_len {b : Int} (h : 0 ≤ b ∧ b ≤ 10) : 1 ≤ (wd b).length ∧ (wd b).length ≤ 11 := by
  rw [len_tl, wd_tl h.1, List.length_replicate]; omega
theorem wds_len {l : List Int} (h : Mk l) : ((l.map wd).map (·.length)).sum ≤ 11 * l.length := by
  induction l with
  | nil => simp
  | cons x l ih =>
    have := wd_len (h x (.head _))
    have := ih fun z hz => h z (.tail _ hz)
    simp only [List.map_cons, List.sum_cons, List.length_cons]
    omega
theorem join_len {l : List Int} (h : Mk l) {c : Str} (hc : c.length = 1) : (PySem.Txt.join c (l.map wd)).length ≤ 12 * l.length := by
  have h1 := tjoin_len c (l.map wd)
  have h2 := wds_len h
  rw [hc, List.length_map] at h1
  omega
theorem enc_append (c : Nat) (a b : List Str) : enc c (a ++ b) = enc c a ++ enc c b := by
  induction a with
  | nil => rfl
  | cons x a ih => simp [enc, ih]
theorem slashdot_is : tl_ (Str.ofString "/.") = [47, 46] := by decide +kernel
theorem slash_tl : tl_ (Str.ofString "/") = [47] := by decide +kernel
theorem dot_tl : tl_ (Str.ofString ".") = [46] := by decide +kernel
theorem dotdot_tl : tl_ (Str.ofString "..") = [46, 46] := by decide +kernel
def toldDir (l : List Int) : Str := Str.ofString "/" ++ PySem.Txt.join (Str.ofString "/") (l.map wd) ++ Str.ofString "/."
theorem told_tl (l : List Int) : tl_ (toldDir l) = 47 :: (tl_ (PySem.Txt.join (Str.ofString "/") (l.map wd)) ++ [47, 46]) := by
  unfold toldDir
  rw [tl_append, tl_append, slashdot_is, slash_tl]
  simp
theorem mk_of {s : Str} {l : List Nat} (h : (s == (⟨l.toArray⟩ : Str)) = true) : tl_ s = l := by
  have := eq_of_beq h
  rw [this]
theorem join_head {l : List Int} (h : Mk l) (hne : l ≠ []) : ∃ r, tl_ (PySem.Txt.join (Str.ofString "/") (l.map wd)) = 97 :: r := by
  have e := join_enc 47 (l.map wd) (by simpa using hne)
  rw [← slash_is] at e
  cases l with
  | nil => exact absurd rfl hne
  | cons x l =>
    have hx := (h x (.head _)).1
    simp only [List.map_cons, enc, wd_tl hx] at e
    obtain ⟨k, hk⟩ : ∃ k, (1 + x).toNat = k + 1 := ⟨x.toNat, by omega⟩
    rw [hk, List.replicate_succ] at e
    cases hj : tl_ (PySem.Txt.join (Str.ofString "/") (List.map wd (x :: l))) with
    | nil => simp only [List.map_cons] at hj; rw [hj] at e; simp at e
    | cons y ys =>
      simp only [List.map_cons] at hj
      rw [hj] at e
      simp only [List.cons_append, List.cons.injEq] at e
      exact ⟨ys, by rw [e.1]⟩
theorem dir_facts {l : List Int} (h : Mk l) (hne : l ≠ []) (hlen : l.length ≤ 30) :
    (toldDir l).length ≤ 100000 ∧ 1 ≤ (toldDir l).length ∧ (PySem.Txt.slice (toldDir l) none (some 1) != Str.ofString "/") = false ∧ (PySem.Txt.slice (toldDir l) (some 1) (some 2) != Str.ofString "/") = true ∧
    PySem.Txt.split (PySem.Txt.slice (toldDir l) (some 1) none) (Str.ofString "/") = l.map wd ++ [Str.ofString "."] ∧ (∀ c ∈ l.map wd, 1 ≤ c.length ∧ c ≠ Str.ofString "." ∧ c ≠ Str.ofString "..") ∧ (l.map wd).length ≤ 100000 ∧ (∀ c ∈ l.map wd, c.length ≤ 100000) ∧
    ((l.map wd).map (·.length)).sum + (l.map wd).length * 64 ≤ 1000000 := by
  obtain ⟨r, hr⟩ := join_head h hne
  have ht := told_tl l
  have hjl := join_len h (c := Str.ofString "/") (by decide +kernel)
  have hL : (tl_ (toldDir l)).length = (tl_ (PySem.Txt.join (Str.ofString "/") (l.map wd))).length + 3 := by rw [ht]; simp
  have hL2 : (toldDir l).length = (PySem.Txt.join (Str.ofString "/") (l.map wd)).length + 3 := by rw [len_tl, hL, ← len_tl]
  have hpos : 1 ≤ (PySem.Txt.join (Str.ofString "/") (l.map wd)).length := by rw [len_tl, hr]; simp
  have w1 : ∀ c ∈ l.map wd, 1 ≤ c.length ∧ c.length ≤ 11 := fun c hc => by
    obtain ⟨b, hb, rfl⟩ := List.mem_map.mp hc
    exact wd_len (h b hb)
  refine ⟨by omega, by omega, ?_, ?_, ?_, ?_, by rw [List.length_map]; omega, fun c hc => by have := (w1 c hc).2; omega, ?_⟩
  · have e := mk_of (slice_closes_to (x := toldDir l) (j := 1) ⟨by decide, by rw [hL]; omega⟩)
    have e2 : PySem.Txt.slice (toldDir l) none (some 1) = Str.ofString "/" := by
      refine str_ext ?_
      rw [e, slash_tl, show (toldDir l).cps.toList = tl_ (toldDir l) from rfl, ht]
      rfl
    rw [e2]; simp
  · have e := mk_of (slice_closes (x := toldDir l) (i := 1) (j := 2) ⟨by decide, by decide, by rw [hL, hr]; simp; omega⟩)
    have e2 : PySem.Txt.slice (toldDir l) (some 1) (some 2) ≠ Str.ofString "/" := fun hh => by
      have := congrArg tl_ hh
      rw [e, slash_tl, show (toldDir l).cps.toList = tl_ (toldDir l) from rfl, ht, hr] at this
      simp at this
    simpa using e2
  · have e := slice_from_eq (x := toldDir l) (i := 1) (b := (toldDir l).length) (by decide) (by omega) rfl
    have hws : l.map wd ≠ [] := by simpa using hne
    have e1 := join_enc 47 (l.map wd) hws
    have e2 := join_enc 47 (l.map wd ++ [Str.ofString "."]) (by simp)
    rw [enc_append, ← e1] at e2
    have e3 : tl_ (PySem.Txt.join ⟨#[47]⟩ (l.map wd ++ [Str.ofString "."])) = tl_ (PySem.Txt.join ⟨#[47]⟩ (l.map wd)) ++ [47, 46] := by
      have : tl_ (PySem.Txt.join ⟨#[47]⟩ (l.map wd ++ [Str.ofString "."])) ++ [47] = (tl_ (PySem.Txt.join ⟨#[47]⟩ (l.map wd)) ++ [47, 46]) ++ [47] := by
        rw [e2]
        simp [enc, dot_tl]
      exact List.append_cancel_right this
    have e4 : PySem.Txt.slice (toldDir l) (some 1) none = PySem.Txt.join ⟨#[47]⟩ (l.map wd ++ [Str.ofString "."]) := by
      refine str_ext ?_
      rw [e, e3, ← slash_is]
      show (((tl_ (toldDir l)).drop 1).take ((toldDir l).length - 1 : Int).toNat) = _
      rw [ht, List.drop_succ_cons, List.drop_zero]
      refine List.take_of_length_le ?_
      rw [List.length_append, ← len_tl, hL2]
      simp
      omega
    rw [e4, slash_is]
    refine split_join (by simp) fun x hx => ?_
    rcases List.mem_append.mp hx with hx | hx
    · exact (wds_free h (by decide) x hx).1
    · rw [List.mem_singleton.mp hx, dot_tl]; decide
  · intro c hc
    have hf := (wds_free h (c := 46) (by decide) c hc).1
    refine ⟨(w1 c hc).1, fun e => hf ?_, fun e => hf ?_⟩
    · rw [e, dot_tl]; decide
    · rw [e, dotdot_tl]; decide
  · have := wds_len h
    rw [List.length_map]
    omega
end
section
open PySem PySem.W PyProof.Rows
set_option maxRecDepth 100000
set_option maxHeartbeats 8000000
theorem fillL13 : PySem.Challenge.rw_pg0172_01 = PySem.Challenge.rw_pg0172_01 ∧ Mine.hd.heap_1 = Mine.hd.heap_1 := by
  w_top off
  k_fill
  exact ⟨rfl, rfl⟩

section
variable {w : World} {p : Program} {loose : List Str} {mean : ExcName → Option Value} {mg mb : Str → Option Value}
  {dp un : Nat} {gd : Option (List Code)} {cn : Str} {cs : Scope} {a : Addr} {ccd : Value} {cl : List (Str × Addr)} {outer : List Env} {A₀ : Around} {base h₀ : Heap} {L : Addr} {m : Str → Option Value} {s : Shared} {Q E : Value → Shared → Prop} {news : List (Addr × Obj)}
theorem c_readerD {lst ep : Nat} {l0 : List Int} {td : Tok} (B : Below A₀ base outer h₀) (F : Fr h₀ L s.heap m) (X : (Mine.hd.heap_1 w.params).In h₀) (N : News h₀ L s.heap ((lst, W.listOf [Value.str (Str.ofString "/" ++ PySem.Txt.join (Str.ofString "/") (l0.map wd) ++ Str.ofString "/.") td].toArray ep) :: news)) (T : Top p loose mean mg mb h₀) (hk : cs.kind = .function)
    (hd : dp + 100 < recursionLimit) (hu : un + 500 < cLine) (hm : Mk l0) (hne : l0 ≠ []) (hlen : l0.length ≤ 30)
    (ret : ∀ (h' : Heap) (tk' t tr t1 t2 t3 n epd : Nat) (led : Bool) (x dx S l ig : Addr) (io : Obj), Fr h₀ L h' m → News h₀ L h' ((ig, io) :: rdObjs w.params t1 t2 t3 x dx S l ig n (set0 led) (W.listOf [Value.str (dirOf l0) tr].toArray epd) ((lst, W.listOf [Value.str (Str.ofString "/" ++ PySem.Txt.join (Str.ofString "/") (l0.map wd) ++ Str.ofString "/.") td].toArray ep) :: news)) →
      io.IsDictOf (PySem.strKind PySem.Challenge.rw_pg0172_01.row.prog w) [(Str.ofString "<string>", .int 1 t)] → (ig == sysModules) = false → (∀ p ∈ (lst, W.listOf [Value.str (Str.ofString "/" ++ PySem.Txt.join (Str.ofString "/") (l0.map wd) ++ Str.ofString "/.") td].toArray ep) :: news, Apart5 dx x S l ig p.1) → (@Ne Nat dx ig ∧ @Ne Nat x ig ∧ @Ne Nat S ig ∧ @Ne Nat l ig) → Q (.ref x) { s with heap := h', toks := tk' }) :
    wpAny (model PySem.Challenge.rw_pg0172_01.row.prog w) (ktrTop dp un gd cn cs L a ccd cl outer) (call (.ref 121) [.none, .ref lst]) Q E s := by
  obtain ⟨d1, d2, d3, d4, d5, d6, d7, d8, d9⟩ := dir_facts hm hne hlen
  exact c_readerF B F X N T hk hd hu d1 d2 d3 d4 (l0.map wd) d5 d6 d7 d8 d9 ret
end
end
section
open PySem PySem.W PyProof.Rows
theorem apart5_lt {dx x S l ig : Nat} {r : List (Addr × Obj)} (h : ∀ p ∈ r, @LT.lt Nat _ p.1 dx) (h1 : dx < x) (h2 : x < S) (h3 : S < l) (h4 : l < ig) : ∀ p ∈ r, Apart5 dx x S l ig p.1 := fun p hp => by
  have := h p hp
  unfold Apart5
  refine ⟨?_, ?_, ?_, ?_, ?_⟩ <;> (intro e; omega)
end
section
open PySem PySem.W PyProof.Rows
section
variable {prog : Program} {w : World} {A : Around} {E : Value → Shared → Prop} {s : Shared} {h₀ : Heap} {L R : Addr} {m : Str → Option Value} {news rest : List (Addr × Obj)}
theorem capRd {h : Heap} {P : Params} {t1 t2 t3 x dx S l ig n : Nat} {io so lo : Obj} {rest : List (Addr × Obj)} (N : News h₀ L h ((ig, io) :: rdObjs P t1 t2 t3 x dx S l ig n so lo rest))
    (ho : @Ne Nat dx ig ∧ @Ne Nat x ig ∧ @Ne Nat S ig ∧ @Ne Nat l ig) (ha : ∀ p ∈ rest, Apart5 dx x S l ig p.1) :
    ∃ r : Rd, x = r.x ∧ io = r.io ∧ so = r.so ∧ lo = r.lo ∧ ig = r.ig ∧ r.Own ∧ (∀ p ∈ rest, Off5 r p.1) ∧ News h₀ L h (r.objs P ++ rest) :=
  ⟨⟨x, dx, S, l, ig, n, t1, t2, t3, io, so, lo⟩, rfl, rfl, rfl, rfl, rfl, ho, ha, N⟩
end
end
section
open PySem PySem.W PyProof.Rows PySem.SeqAt
set_option maxRecDepth 100000
set_option maxHeartbeats 8000000
theorem RdsOk.uncons {prog : Program} {w : World} {K : Nat} {f : Int → List Int} {n : Int} {k : List Int} : ∀ {rs : List Rd}, RdsOk prog w K f rs (n :: k) → ∃ r rs', rs = r :: rs' ∧ RdOk prog w K (f n) n r ∧ RdsOk prog w K f rs' k
  | r :: rs', x => ⟨r, rs', rfl, x.1, x.2⟩
theorem objs_io (P : Params) (r : Rd) (io' : Obj) (q : Nat) : (∀ p ∈ ({ r with io := io' } : Rd).objs P, @Ne Nat p.1 q) ↔ ∀ p ∈ r.objs P, @Ne Nat p.1 q := by
  simp only [Rd.objs, List.forall_mem_cons]
theorem RdsApart.put {P : Params} {rsA rsB : List Rd} {r : Rd} {base : List (Addr × Obj)} {io' : Obj} (h : RdsApart P (rsA ++ r :: rsB) base) : RdsApart P (rsA ++ { r with io := io' } :: rsB) base := by
  obtain ⟨a, b, c⟩ := h
  rw [List.pairwise_append, List.pairwise_cons] at a
  obtain ⟨a1, ⟨a2, a3⟩, a4⟩ := a
  refine ⟨?_, ?_, ?_⟩
  · rw [List.pairwise_append, List.pairwise_cons]
    refine ⟨a1, ⟨fun r' hr' => ?_, a3⟩, fun r0 hr0 r' hr' => ?_⟩
    · exact ⟨(a2 r' hr').1, (objs_io P r io' _).mpr (a2 r' hr').2⟩
    · rcases List.mem_cons.mp hr' with rfl | hr'
      · have := a4 r0 hr0 r (.head _)
        exact ⟨(objs_io P r io' _).mpr this.1, this.2⟩
      · exact a4 r0 hr0 r' (.tail _ hr')
  · intro r' hr'
    rcases List.mem_append.mp hr' with h1 | h1
    · exact b r' (List.mem_append_left _ h1)
    · rcases List.mem_cons.mp h1 with rfl | h1
      · exact b r (List.mem_append_right _ (.head _))
      · exact b r' (List.mem_append_right _ (.tail _ h1))
  · intro r' hr'
    rcases List.mem_append.mp hr' with h1 | h1
    · exact c r' (List.mem_append_left _ h1)
    · rcases List.mem_cons.mp h1 with rfl | h1
      · exact c r (List.mem_append_right _ (.head _))
      · exact c r' (List.mem_append_right _ (.tail _ h1))
theorem RdsApart.cons {P : Params} {rs : List Rd} {base : List (Addr × Obj)} {q : Addr × Obj} (h : RdsApart P rs base) (hq : ∀ p ∈ rdsObjs P rs, @Ne Nat p.1 q.1) : RdsApart P rs (q :: base) := by
  refine ⟨h.1, h.2.1, fun r hr p hp => ?_⟩
  rcases List.mem_cons.mp hp with rfl | hp
  · exact Ne.symm (hq (r.ig, r.io) (List.mem_flatMap.mpr ⟨r, hr, .head _⟩))
  · exact h.2.2 r hr p hp
theorem RdsApart.mid {P : Params} {rsA rsB : List Rd} {r : Rd} {base : List (Addr × Obj)} (h : RdsApart P (rsA ++ r :: rsB) base) : r.Own ∧ ∀ p ∈ base ++ (rdsObjs P rsA ++ rdsObjs P rsB), @Ne Nat p.1 r.ig := by
  obtain ⟨a, b, c⟩ := h
  rw [List.pairwise_append, List.pairwise_cons] at a
  obtain ⟨a1, ⟨a2, a3⟩, a4⟩ := a
  refine ⟨b r (List.mem_append_right _ (.head _)), fun p hp => ?_⟩
  rcases List.mem_append.mp hp with hp | hp
  · exact c r (List.mem_append_right _ (.head _)) p hp
  · rcases List.mem_append.mp hp with hp | hp
    · obtain ⟨r0, hr0, hp⟩ := List.mem_flatMap.mp hp
      exact (a4 r0 hr0 r (.head _)).2 p hp
    · obtain ⟨r0, hr0, hp⟩ := List.mem_flatMap.mp hp
      exact (a2 r0 hr0).1 p hp
theorem rds_mid {P : Params} {rsA rsB : List Rd} {r : Rd} {base : List (Addr × Obj)} : ∀ p ∈ r.objs P ++ (base ++ (rdsObjs P rsA ++ rdsObjs P rsB)), p ∈ base ++ rdsObjs P (rsA ++ r :: rsB) := by
  intro p hp
  have e : rdsObjs P (rsA ++ r :: rsB) = rdsObjs P rsA ++ (r.objs P ++ rdsObjs P rsB) := by simp [rdsObjs]
  rw [e]
  generalize Rd.objs P r = o at hp ⊢
  simp only [List.mem_append] at hp ⊢
  rcases hp with h | h | h | h <;> simp only [h, true_or, or_true]
theorem rds_mid2 {P : Params} {rsA rsB : List Rd} {r : Rd} {base : List (Addr × Obj)} : ∀ p ∈ base ++ rdsObjs P (rsA ++ r :: rsB), p ∈ r.objs P ++ (base ++ (rdsObjs P rsA ++ rdsObjs P rsB)) := by
  intro p hp
  have e : rdsObjs P (rsA ++ r :: rsB) = rdsObjs P rsA ++ (r.objs P ++ rdsObjs P rsB) := by simp [rdsObjs]
  rw [e] at hp
  generalize Rd.objs P r = o at hp ⊢
  simp only [List.mem_append] at hp ⊢
  rcases hp with h | h | h | h <;> simp only [h, true_or, or_true]
theorem RdsApart.sub {P : Params} {rs : List Rd} {base base' : List (Addr × Obj)} (h : RdsApart P rs base) (hs : ∀ p ∈ base', p ∈ base) : RdsApart P rs base' := ⟨h.1, h.2.1, fun r hr p hp => h.2.2 r hr p (hs p hp)⟩
theorem rds_put_ne {P : Params} {rsA rsB : List Rd} {r : Rd} {io' : Obj} {q : Nat} (h : ∀ p ∈ rdsObjs P (rsA ++ r :: rsB), @Ne Nat p.1 q) : ∀ p ∈ rdsObjs P (rsA ++ { r with io := io' } :: rsB), @Ne Nat p.1 q := fun p hp => by
  obtain ⟨r0, hr0, hp⟩ := List.mem_flatMap.mp hp
  have hin : ∀ r1 ∈ rsA ++ r :: rsB, ∀ p ∈ r1.objs P, @Ne Nat p.1 q := fun r1 hr1 p hp => h p (List.mem_flatMap.mpr ⟨r1, hr1, hp⟩)
  rcases List.mem_append.mp hr0 with h1 | h1
  · exact hin r0 (List.mem_append_left _ h1) p hp
  · rcases List.mem_cons.mp h1 with rfl | h1
    · exact (objs_io P r io' q).mpr (hin r (List.mem_append_right _ (.head _))) p hp
    · exact hin r0 (List.mem_append_right _ (.tail _ h1)) p hp
theorem rds_two (P : Params) (r q : Rd) : rdsObjs P [r, q] = r.objs P ++ q.objs P := by
  show r.objs P ++ (q.objs P ++ []) = _
  rw [List.append_nil]
theorem rds_one (P : Params) (r : Rd) : rdsObjs P [r] = r.objs P := by
  show r.objs P ++ [] = _
  rw [List.append_nil]
theorem rds_pair {P : Params} {r q : Rd} {base : List (Addr × Obj)} (h : RdsApart P [] base) (ho : r.Own) (h2 : ∀ p ∈ base, Off5 r p.1) (ho' : q.Own) (h3 : ∀ p ∈ r.objs P ++ base, Off5 q p.1) : RdsApart P [r, q] base :=
  (h.snoc ho (fun p hp => nomatch hp) h2).snoc ho' (fun p hp => h3 p (List.mem_append_left _ (by rw [← rds_one P r]; exact hp))) (fun p hp => h3 p (List.mem_append_right _ hp))
theorem rds_pair_sub {P : Params} {r q : Rd} {x y : Addr × Obj} {l : List (Addr × Obj)} : ∀ p ∈ l ++ rdsObjs P [r, q], p ∈ q.objs P ++ (y :: (r.objs P ++ x :: l)) := by
  rw [rds_two]
  generalize Rd.objs P r = o
  generalize Rd.objs P q = o'
  intro p hp
  simp only [List.mem_cons, List.mem_append] at hp ⊢
  rcases hp with h | h | h <;> simp only [h, true_or, or_true]
end
section
open PySem PySem.W PyProof.Rows PySem.Spec
set_option maxRecDepth 100000
set_option maxHeartbeats 8000000
def LoopC (prog : Program) (w : World) (A : Around) (env : Env) (x : Str) (px : Pos) (body : List Stmt) (Q : Flow → Shared → Prop) (it : Value) (s₂ : Shared) : Prop :=
  codeAny (model prog w) A (.forLoop (.Name x px) it body [] env) (fun r s' => match r with | .ok f => Q f s' | .error _ => False) s₂
section
variable {prog : Program} {w : World} {A : Around} {E : Value → Shared → Prop} {s : Shared} {env : Env} {h₀ : Heap} {x : Str} {body : List Stmt} {Q : Flow → Shared → Prop}
theorem For_C {px pos : Pos} {iter : PySem.Expr} 
    (h : wpAny (model prog w) A (eval iter env) (fun xv s₁ => wpAny (model prog w) A (pyIter xv) (fun it s₂ => LoopC prog w A env x px body Q it s₂) (fun _ _ => False) s₁) (fun _ _ => False) s)
    (hs : ∀ x, foldedSetIterable iter env x = pure x := by intro _; rfl) :
    wpAny (model prog w) A (exec (.For (.Name x px) iter body [] pos) env) Q E s := by
  refine wpAny_For (wpAny_noRaise (wpAny_mono h (fun xv s₁ h₁ => wpAny_noRaise (wpAny_mono h₁ (fun it s₂ h₂ => ?_) fun _ _ e => e)) fun _ _ e => e)) hs
  exact codeAny_mono h₂ (fun r s' hr => by
    cases r with
    | ok f => exact hr
    | error e => exact hr.elim)
theorem iterC {px : Pos} {ax : Addr} {lo : Obj} {vs : List Value} {ep : Nat} {m : Str → Option Value} {news : List (Addr × Obj)} (J : Nat → (Str → Option Value) → List (Addr × Obj) → Prop)
    (hh : A.handled = none) (F : Fr h₀ env.locals s.heap m) (N : News h₀ env.locals s.heap news) (hm : (ax, lo) ∈ news) (hc : lo.cls = .type "list") (hd : lo.data = .seq vs.toArray ep)
    (h0 : J 0 m news) (hJ : ∀ i m' n', J i m' n' → (ax, lo) ∈ n')
    (turn : ∀ I i v m₁ news₁ it h tk, vs[i]? = some v → J i m₁ news₁ → ListIt ax it → (∀ p ∈ news₁, p.1 ≠ I) → Fr h₀ env.locals h m₁ → News h₀ env.locals h ((I, it) :: news₁) →
      wpAny (model prog w) A (storeName env x v) (fun _ s' => wpAny (model prog w) A (execs body env) (MTurn h₀ env.locals I it (J (i + 1)) { s with heap := h, toks := tk } Q) (fun _ _ => False) s') (fun _ _ => False) { s with heap := h, toks := tk })
    (done : ∀ h' tk m' news', Fr h₀ env.locals h' m' → News h₀ env.locals h' news' → J vs.length m' news' → Q .next { s with heap := h', toks := tk }) :
    wpAny (model prog w) A (pyIter (.ref ax)) (fun it s₂ => LoopC prog w A env x px body Q it s₂) E s := by
  have hax := N _ hm
  have hls : s.heap.IsList ax vs.toArray := ⟨lo, hax.1, hc, ep, hd⟩
  have hlt : ax < s.heap.objs.size := Heap.lt_size hax.1
  refine wpAny_pyIter_list hls ?_
  have W := Walks.list (prog := prog) (w := w) hh s.heap.objs.size ax (Nat.ne_of_lt hlt) vs.toArray
  have hlen : vs.toArray.size = vs.length := by simp
  rw [hlen] at W
  have hIL : s.heap.objs.size ≠ env.locals := Nat.ne_of_gt F.ns.lt
  have hI0 : h₀.get? s.heap.objs.size = none := next_is_new F
  generalize hI : s.heap.objs.size = I at *
  refine codeAny_forLoop
    (fun k s' => ∃ h' tk m' news' i, s' = { s with heap := h', toks := tk } ∧ (h'.IsListIter I ax i ∧ h'.IsList ax vs.toArray) ∧ Fr h₀ env.locals h' m' ∧ News h₀ env.locals h' news' ∧ (∀ p ∈ news', p.1 ≠ I) ∧ J i m' news' ∧ i ≤ vs.length ∧ k = vs.length + 1 - i) ?_ (vs.length + 1)
    ⟨_, s.toks, m, news, 0, rfl, ⟨⟨_, hI ▸ Heap.get?_push_size _ rfl, rfl, rfl⟩, hls.at fun o e => Heap.get?_push_of_some _ e⟩, F.push _, (fun p hp => ⟨Heap.get?_push_of_some _ (N p hp).1, (N p hp).2⟩), (fun p hp => hI ▸ Nat.ne_of_lt (Heap.lt_size (N p hp).1)), h0, Nat.zero_le _, rfl⟩
  rintro k s' ⟨h', tk, m', news', i, rfl, hst, F', N', hn', hJi, hi, rfl⟩
  have next : ∀ h₁ : Heap, (∀ b o, b ∉ [I] → h'.get? b = some o → h₁.get? b = some o) → Fr h₀ env.locals h₁ m' ∧ News h₀ env.locals h₁ news' := fun h₁ hk₁ =>
    ⟨⟨F'.ns.at' fun o e => hk₁ _ o (by simpa using Ne.symm hIL) e, fun b o e => hk₁ b o (fun hb => by rw [List.mem_singleton.mp hb, hI0] at e; cases e) (F'.keep b o e), F'.above⟩, fun p hp => ⟨hk₁ _ _ (by simpa using hn' p hp) (N' p hp).1, (N' p hp).2⟩⟩
  by_cases hlt : i < vs.length
  · refine W.item i _ _ _ hlt hst fun v h₁ tk₁ hP hst₁ hk₁ => ?_
    obtain ⟨F₁, N₁⟩ := next h₁ hk₁
    obtain ⟨⟨it, hit, hitc, hitd⟩, _⟩ := hst₁
    have N₂ : News h₀ env.locals h₁ ((I, it) :: news') := fun p hp => by
      rcases List.mem_cons.mp hp with rfl | hp
      · exact ⟨hit, hIL, hI0⟩
      · exact N₁ p hp
    refine wpAny_assign_Name (wpAny_noRaise (wpAny_mono (turn I i v m' news' it h₁ tk₁ (by simpa using hP) hJi ⟨hitc, _, hitd⟩ hn' F₁ N₂) (fun _ s₂ h₂ => wpAny_noRaise (wpAny_mono h₂ (fun f s₃ h₃ => ?_) fun _ _ e => e)) fun _ _ e => e))
    have fin : TurnEnd h₀ env.locals I it (J (i + 1)) { s with heap := h₁, toks := tk₁ } s₃ → ∃ mm, mm < vs.length + 1 - i ∧ ∃ h' tk m' news' i, s₃ = { s with heap := h', toks := tk } ∧ (h'.IsListIter I ax i ∧ h'.IsList ax vs.toArray) ∧ Fr h₀ env.locals h' m' ∧ News h₀ env.locals h' news' ∧ (∀ p ∈ news', p.1 ≠ I) ∧ J i m' news' ∧ i ≤ vs.length ∧ mm = vs.length + 1 - i := by
      rintro ⟨h₄, tk₄, m₄, news₄, rfl, F₄, N₄, hn₄, hJ₄⟩
      refine ⟨vs.length + 1 - (i + 1), by omega, h₄, tk₄, m₄, news₄, i + 1, rfl, ⟨⟨it, (N₄ _ (.head _)).1, hitc, hitd⟩, ⟨lo, (N₄ _ (.tail _ (hJ _ _ _ hJ₄))).1, hc, ep, hd⟩⟩, F₄, fun p hp => N₄ p (.tail _ hp), hn₄, hJ₄, hlt, rfl⟩
    cases f with
    | ret v => exact h₃
    | brk => exact h₃
    | next => exact fin h₃
    | cont => exact fin h₃
  · obtain rfl : i = vs.length := by omega
    refine W.done _ _ _ hst fun h₁ tk₁ hk₁ => wpAny_execs_nil ?_
    obtain ⟨F₁, N₁⟩ := next h₁ hk₁
    exact done h₁ tk₁ m' news' F₁ N₁ hJi
end
section
variable {prog : Program} {w : World} {A : Around} {s : Shared} {h₀ : Heap} {L : Addr} {m : Str → Option Value} {env : Env}
theorem compInvT {ct elt : PySem.Expr} {x : Str} {scope : Scope} {cl : List (Str × Addr)} {S : List (Addr × Obj) → Prop} {P : Nat → Value → Prop} {Fin : List Value → List (Addr × Obj) → Prop} {n : Nat}
    (J : Nat → List Value → List (Addr × Obj) → Prop)
    (turn : ∀ i ys news v I oI C oC D m₂ h tk (E' : Value → Shared → Prop), i < n → J i ys news → P i v → LCg.NsObj oC m₂ → m₂ x = some v → Fr h₀ L h m → News h₀ L h ((I, oI) :: (C, oC) :: (D, LCg.lst ys) :: news) → LCg.Off3 I C D news → ((@Ne Nat I C) ∧ (@Ne Nat I D) ∧ (@Ne Nat C D)) →
      wpAny (model prog w) A (isTrue ct (compEnvC scope cl C env) (eval ct (compEnvC scope cl C env))) (fun ok s' => if ok = true then
        wpAny (model prog w) A (eval elt (compEnvC scope cl C env)) (LCg.CompEnd h₀ L m { s with heap := h, toks := tk } I oI C oC D (LCg.lst ys) S (fun y news' => J (i + 1) (ys ++ [y]) news')) E' s'
        else LCg.CompEnd h₀ L m { s with heap := h, toks := tk } I oI C oC D (LCg.lst ys) S (fun _ news' => J (i + 1) ys news') Value.none s') E' { s with heap := h, toks := tk })
    (fin : ∀ ys news, J n ys news → Fin ys news) : ∀ k i ys news, i + k = n → J i ys news → LCt.CompRestT prog w A h₀ L m env ct elt x scope cl s S P Fin k i ys news := by
  intro k
  induction k with
  | zero => intro i ys news hi hj; obtain rfl : i = n := by omega
            exact LCt.CompRestT.zero (fin ys news hj)
  | succ k ih =>
    intro i ys news hi hj
    refine LCt.CompRestT.succ ?_
    intro v I oI C oC D m₂ h tk E' hP hC hx F N off ne
    refine wpAny_mono (turn i ys news v I oI C oC D m₂ h tk E' (by omega) hj hP hC hx F N off ne) (fun ok s₂ hc => ?_) fun _ _ e => e
    cases ok with
    | true =>
      simp only [if_true] at hc ⊢
      refine wpAny_mono hc (fun y s₃ h₃ => ?_) fun _ _ e => e
      obtain ⟨h', tk', news', e, F', N', off', hS', hr⟩ := h₃
      exact ⟨h', tk', news', e, F', N', off', hS', ih (i + 1) _ _ (by omega) hr⟩
    | false =>
      simp only [Bool.false_eq_true, if_false] at hc ⊢
      obtain ⟨h', tk', news', e, F', N', off', hS', hr⟩ := hc
      exact ⟨h', tk', news', e, F', N', off', hS', ih (i + 1) _ _ (by omega) hr⟩
end
section
variable {M : Model} {A : Around} {E : Value → Shared → Prop} {s : Shared} {h₀ : Heap} {L a : Addr} {m : Str → Option Value} {cn : Str} {cs : Scope} {ccd : Value} {cl : List (Str × Addr)}
  {x : Str} {Q : Unit → Shared → Prop} {news : List (Addr × Obj)} {g : Obj → List (Addr × Obj)} {c : Addr} {o : Obj} {v₀ : Option Value}
theorem storeIntC {n : Int} {t : Tok} (F : Fr h₀ L s.heap m) (N : News h₀ L s.heap news) (hc : cl.lookup x = some c) (U : UpdF c o news g) (hd : o.data = .cell v₀)
    (h : ∀ (h' : Heap) (o' : Obj) (t' tk' : Nat), Fr h₀ L h' m → News h₀ L h' (g o') → o'.data = .cell (some (.int n t')) → Q () { s with heap := h', toks := tk' })
    (hk : cs.kind = .function := by rfl) (hx : (envX cn cs L a ccd cl).kindOf x = some .cell := by rfl) : wpAny M A (storeName (envX cn cs L a ccd cl) x (.int n t)) Q E s :=
  storeX_C F N hc U hd (fun h' o' F' N' d' => h h' o' t s.toks F' N' d') hk hx
theorem storeC {v : Value} (F : Fr h₀ L s.heap m) (N : News h₀ L s.heap news) (hc : cl.lookup x = some c) (U : UpdF c o news g) (hd : o.data = .cell v₀)
    (h : ∀ (h' : Heap) (o' : Obj) (tk' : Nat), Fr h₀ L h' m → News h₀ L h' (g o') → o'.data = .cell (some v) → Q () { s with heap := h', toks := tk' })
    (hk : cs.kind = .function := by rfl) (hx : (envX cn cs L a ccd cl).kindOf x = some .cell := by rfl) : wpAny M A (storeName (envX cn cs L a ccd cl) x v) Q E s :=
  storeX_C F N hc U hd (fun h' o' F' N' d' => h h' o' s.toks F' N' d') hk hx
end
theorem joinInt {M : Model} {A : Around} {E : Value → Shared → Prop} {s : Shared} {x : Sem Value} {Q : Value → Shared → Prop} (n : Int)
    (h : wpAny M A x (fun v s' => Stop (∃ (t tk : Nat), v = .int n t ∧ s' = { s with toks := tk })) E s) (h2 : ∀ t tk, Q (.int n t) { s with toks := tk }) : wpAny M A x Q E s :=
  wpAny_mono h (fun _ _ ⟨t, tk, e1, e2⟩ => by subst e1 e2; exact h2 t tk) fun _ _ e => e
theorem intE {a c : Int} {t : Tok} (h : a = c) : Value.int a t = Value.int c t := by rw [h]
end
section
open PySem PySem.W PyProof.Rows
set_option maxRecDepth 100000
set_option maxHeartbeats 8000000
theorem fillU1 : PySem.Challenge.rw_pg0172_01 = PySem.Challenge.rw_pg0172_01 ∧ Mine.hd.heap_1 = Mine.hd.heap_1 := by
  w_top off
  k_fill
  exact ⟨rfl, rfl⟩

theorem IsListFr {h₀ h : Heap} {L l : Addr} {m : Str → Option Value} {its : Array Value} (F : Fr h₀ L h m) (hl : h₀.IsList l its) : h.IsList l its := by
  obtain ⟨o, e, r⟩ := hl
  exact ⟨o, F.keep _ _ e, r⟩
section
variable {prog : Program} {w : World} {A : Around} {E : Value → Shared → Prop} {s : Shared} {h₀ : Heap} {L : Addr} {m : Str → Option Value}
theorem lenB {l : Addr} {vs : List Value} {ns : List Int} {Q : Value → Shared → Prop} (F : Fr h₀ L s.heap m) (hl : h₀.IsList l vs.toArray) (hI : IntsAre vs ns) (hz : ns.length ≤ 1000000)
    (h : ∀ t tk, Q (.int (ns.length : Int) t) { s with toks := tk }) : wpAny (model prog w) A (call (.builtin "len") [.ref l]) Q E s := by
  have e : vs.toArray.size = ns.length := by rw [List.size_toArray, hI.length]
  refine PySem.Calls.call_len_list (IsListFr F hl) (by omega) ?_
  exact e ▸ h _ _
theorem itemB {value slice : PySem.Expr} {l : Addr} {vs : List Value} {ns : List Int} {k : Int} {u : Tok} {Q : Value → Shared → Prop} (F : Fr h₀ L s.heap m) (hl : h₀.IsList l vs.toArray) (hI : IntsAre vs ns) (hk0 : 0 ≤ k) (hk1 : k < ns.length) (hz : ns.length ≤ 1000000)
    (h : ∀ t, Q (.int (ns.getD k.toNat 0) t) s)
    (hs : subscripted slice false (.ref l) (.int k u) = operate [.ref l, .int k u] (getItem (.ref l) (.int k u)) := by with_unfolding_all rfl) (hg : ∀ r, letTemporaryGo value (.ref l) r = pure () := by intro _; with_unfolding_all rfl) :
    wpAny (model prog w) A (subscriptTail value slice (.ref l) (.int k u)) Q E s := by
  have hsz : vs.toArray.size = ns.length := by simp [hI.length]
  obtain ⟨t, hx⟩ := hI.get k.toNat _ (ints_getD (k := k) (by omega) (by omega))
  have hl' := IsListFr F hl
  refine tail_any hl'.typeIs slot_list_getitem.lookup (wpAny_getItem_list hl' (by omega) (by omega) (by simpa using hx) (h t)) hs
end
section
variable {w : World} {p : Program} {loose : List Str} {mean : ExcName → Option Value} {mg mb : Str → Option Value}
  {dp un : Nat} {gd : Option (List Code)} {cn : Str} {cs : Scope} {a : Addr} {ccd : Value} {cl : List (Str × Addr)} {outer : List Env} {A₀ : Around} {base h₀ : Heap} {L : Addr} {m : Str → Option Value} {s : Shared} {Q E : Value → Shared → Prop} {news : List (Addr × Obj)}

local macro_rules | `(tactic| walk_at "call builtin:len") => `(tactic| (k_here; k_dflt (refine' lenB ?F ?l ?i ?z ?_; (case F => k_asm); (case l => assumption); (case i => assumption); (case z => omega)); intro _ _))
local macro_rules | `(tactic| walk_at "subscriptTail Name Name ref int") => `(tactic| (k_here; k_dflt (refine' itemB ?F ?l ?i ?a ?b ?z ?_; (case F => k_asm); (case l => assumption); (case i => assumption); (case a => first | assumption | omega); (case b => omega); (case z => omega)); intro _))
theorem c_cell {l : Nat} {vs : List Value} {ns : List Int} (B : Below A₀ base outer h₀) (F : Fr h₀ L s.heap m) (X : (Mine.hd.heap_1 w.params).In h₀) (N : News h₀ L s.heap news) (T : Top p loose mean mg mb h₀) (hk : cs.kind = .function)
    (hd : dp + 20 < recursionLimit) (hu : un + 100 < cLine) (hl : h₀.IsList l vs.toArray) (hI : IntsAre vs ns) (hlen : ns.length ≤ 1000) (k : Int) (tk : Tok) (hk0 : 0 ≤ k) (hk1 : k ≤ 1000)
    (ret : ∀ (h' : Heap) (tk' t : Nat), Fr h₀ L h' m → News h₀ L h' news → Q (.int (ns.getD k.toNat 0) t) { s with heap := h', toks := tk' }) :
    wpAny (model PySem.Challenge.rw_pg0172_01.row.prog w) (ktrTop dp un gd cn cs L a ccd cl outer) (call (.ref 132) [.ref l, .int k tk]) Q E s := by
  refine wpAny_call ?_
  k_dflt cell_enter
  rename_i g1 L1 h1 FG1 F1 N1 B1 X1 T1
  have hl1 : g1.IsList l vs.toArray := IsListFr FG1 hl
  k_steps
  · exact ret _ _ _ (by assumption) (by assumption)
  · have e : ns.getD k.toNat 0 = 0 := by
      rw [List.getD_eq_getElem?_getD, List.getElem?_eq_none (by omega)]; rfl
    rw [e] at ret
    exact ret _ _ _ (by assumption) (by assumption)
end
end
section
open PySem PySem.W PyProof.Rows
set_option maxRecDepth 100000
set_option maxHeartbeats 8000000
theorem fillU2 : PySem.Challenge.rw_pg0172_01 = PySem.Challenge.rw_pg0172_01 ∧ Mine.hd.heap_1 = Mine.hd.heap_1 := by
  w_top off
  k_fill
  exact ⟨rfl, rfl⟩

def badB (sz m : Int) (j : Nat) : Bool := decide (sz.fmod (2 + (j : Int)) = 0) && decide (m.fmod (2 + (j : Int)) = 0)
def copB (sz m : Int) : Bool := (List.range (sz - 1).toNat).all fun j => !badB sz m j
def unitsI (sz : Int) : List Int := [1, 3, 5, 2, 4, -1, -3, -2].filter (copB sz)
theorem rng_sizeA (a : Int) {c : Int} (n : Nat) (h : c - a = n) : Builtin.Range.rangeSize a c 1 = ((n : Nat) : Int) := by
  obtain rfl : c = a + n := by omega
  simp [Builtin.Range.rangeSize]
  split <;> omega
theorem rng_smallA {a c : Int} (n : Nat) (h : c - a = n) (h1 : -1000 ≤ a ∧ c ≤ 1000000) : Builtin.Range.small a c 1 = true := by
  unfold Builtin.Range.small
  rw [rng_sizeA a n h]
  simp [Builtin.Range.rangeFitsLong]
  omega
theorem copB_of {sz m : Int} {zs : List Int} {n : Nat} (hn : sz - 1 = n) (h : zs = [] ↔ ∀ j, j < n → badB sz m j = false) : decide (zs = []) = copB sz m := by
  have e : (sz - 1).toNat = n := by omega
  unfold copB
  rw [e, Bool.eq_iff_iff, decide_eq_true_iff, List.all_eq_true, h]
  constructor
  · intro h j hj
    rw [h j (by simpa using hj)]; rfl
  · intro h j hj
    have := h j (by simpa using hj)
    simpa using this
theorem bad_step {sz m : Int} {zs : List Int} {i : Nat} (h : zs = [] ↔ ∀ j, j < i → badB sz m j = false) (hb : badB sz m i = false) : zs = [] ↔ ∀ j, j < i + 1 → badB sz m j = false := by
  rw [h]
  constructor
  · intro h j hj
    rcases Nat.lt_succ_iff_lt_or_eq.mp hj with h1 | rfl
    · exact h j h1
    · exact hb
  · exact fun h j hj => h j (by omega)
theorem bad_stop {sz m x : Int} {zs : List Int} {i : Nat} (hb : badB sz m i = true) : zs ++ [x] = [] ↔ ∀ j, j < i + 1 → badB sz m j = false := by
  constructor
  · intro h; simp at h
  · intro h
    have := h i (by omega)
    rw [hb] at this; cases this
section
variable {w : World} {p : Program} {loose : List Str} {mean : ExcName → Option Value} {mg mb : Str → Option Value}
  {dp un : Nat} {gd : Option (List Code)} {cn : Str} {cs : Scope} {a : Addr} {ccd : Value} {cl : List (Str × Addr)} {outer : List Env} {A₀ : Around} {base h₀ : Heap} {L : Addr} {m : Str → Option Value} {s : Shared} {Q E : Value → Shared → Prop} {news : List (Addr × Obj)}

local macro_rules | `(tactic| walk_at "exec For Name List cons nil") => `(tactic| (k_here; k_dflt (refine For_C ?_)))
local macro_rules | `(tactic| walk_at "pyIter ref") => `(tactic| refine Stop.to ?_)
local macro_rules | `(tactic| walk_at "eval ListComp") => `(tactic| refine Stop.to ?_)
local macro_rules | `(tactic| walk_at "CompSrcT") => `(tactic| refine Stop.to ?_)
local macro_rules | `(tactic| walk_at "CompEnd") => `(tactic| k_dflt (refine' compEndAll ?cF ?cN ?cO ?cH ?_; (case cF => k_asm); (case cN => assumption); (case cO => first | assumption | (simp only [LCg.Off3, and_true]; assumption)); (case cH => lcg_src)))
local macro_rules | `(tactic| walk_at "eval Name") => `(tactic| (k_here; k_dflt (refine' nameX_L ?F ?v ?_; (case F => k_asm); (case v => first | exact M6.off (by with_reducible assumption) rfl | rfl))))
local macro_rules | `(tactic| walk_at "storeName") => `(tactic| (k_here; k_dflt (refine' storeS _ _ ?_; walk_at "cc"); intros; (try k_sweep)))
theorem c_units (B : Below A₀ base outer h₀) (F : Fr h₀ L s.heap m) (X : (Mine.hd.heap_1 w.params).In h₀) (N : News h₀ L s.heap news) (T : Top p loose mean mg mb h₀) (hk : cs.kind = .function)
    (hd : dp + 20 < recursionLimit) (hu : un + 200 < cLine) (sz : Int) (tz : Tok) (h2 : 2 ≤ sz) (h5 : sz ≤ 5)
    (ret : ∀ (h' : Heap) (tk' ep U : Nat) (uvs : List Value), Fr h₀ L h' m → News h₀ L h' ((U, W.listOf uvs.toArray ep) :: news) → (∀ p ∈ news, p.1 < U) → IntsAre uvs (unitsI sz) → Q (.ref U) { s with heap := h', toks := tk' }) :
    wpAny (model PySem.Challenge.rw_pg0172_01.row.prog w) (ktrTop dp un gd cn cs L a ccd cl outer) (call (.ref 137) [.int sz tz]) Q E s := by
  refine wpAny_call ?_
  k_dflt (refine' code_defC ?k1 ?k2 ?k3 ?k4 ?k5 ?kA ?kF ?kK ?k6 ?k7 ?k8 ?k9 ?kB ?kD ?_ ?c2 ?c3 ?c4; (case kA => exact rfl); (case kF => exact rfl); (case kK => assumption); (case k1 => k_asm); (case k2 => k_asm); (case k3 => k_asm); (case k4 => k_asm); (case k5 => k_asm); (case k6 => k_is); (case k7 => k_is); (case k8 => ktr_room); (case k9 => exact BindsTo.of_eq rfl); (case kB => exact rfl); (case kD => decide +kernel); (case c2 => exact rfl); (case c3 => exact rfl); (case c4 => exact rfl); k_whole; intro g' L' h' tk' cells' FG' F' N' Y' B' X' T' l1; (try k_lt l1); k_cells Y'; (try simp only [List.cons_append, List.nil_append] at N'); (try dsimp only); (try k_lift B'); (try k_fold))
  obtain ⟨m0, em0⟩ := capM2 F'
  rw [em0] at F'
  clear em0
  replace F' : Fr g' L' _ (M6 m0 []) := F'
  refine' split_tail (T := ∀ (h2 : Heap) (tk lv ep U tz : Nat) (vs : List Value) (om oz : Obj) (v0 : Option Value), IntsAre vs [1, 3, 5, 2, 4, -1, -3, -2] → om.data = .cell v0 → oz.data = .cell (some (.int sz tz)) → @LT.lt Nat _ (L' + 1 + 1) U → (∀ p ∈ news, p.1 < U) → @LT.lt Nat _ U lv →
      Fr g' L' h2 (M6 m0 [(Str.ofString "units", some (.ref U))]) → News g' L' h2 ((lv, W.listOf vs.toArray ep) :: (U, W.listOf #[] 0) :: (L' + 1 + 1, om) :: (L' + 1, oz) :: news) → wpAny _ _ (pyIter (.ref lv)) _ _ { s with heap := h2, toks := tk }) ?S0m ?S0t
  case S0m =>
    intro hT
    k_steps
    unfold Stop
    refine' hT _ _ _ _ _ _ [_, _, _, _, _, _, _, _] _ _ _ ?qv ?q1 ?q2 ?q3 ?q4 ?q5 ?qF ?qN
    case qN => assumption
    case qF => assumption
    case qv => exact .cons _ _ (.cons _ _ (.cons _ _ (.cons _ _ (.cons _ _ (.cons _ _ (.cons _ _ (.cons _ _ .nil)))))))
    case q1 => assumption
    case q2 => assumption
    case q3 => omega
    case q4 =>
      rename (∀ p : Addr × Obj, p ∈ (_, _) :: (_, _) :: news → p.1 < _) => hl
      exact fun p hp => hl p (.tail _ (.tail _ hp))
    case q5 => omega
  case S0t =>
    clear N' F'
    intro h2 tk lv ep U tz vs om oz v0 hvs hom hoz hU1 hU2 hU3 F2 N2
    have hU4 : ∀ p ∈ (L' + 1 + 1, om) :: (L' + 1, oz) :: news, p.1 ≠ U := by
      intro p hp
      rcases List.mem_cons.mp hp with rfl | hp
      · exact Nat.ne_of_lt hU1
      · rcases List.mem_cons.mp hp with rfl | hp
        · exact Nat.ne_of_lt (by show @LT.lt Nat _ (L' + 1) U; omega)
        · exact Nat.ne_of_lt (hU2 p hp)
    have hnc : ∀ p ∈ news, p.1 ≠ L' + 1 + 1 := fun p hp => Nat.ne_of_lt (Nat.lt_succ_of_lt (Nat.lt_succ_of_lt (l1 p hp)))
    have hUn : ∀ p ∈ news, p.1 ≠ U := fun p hp => Nat.ne_of_lt (hU2 p hp)
    refine' iterC (J := fun i m' n' => Stop (∃ (uvs : List Value) (om : Obj) (v0 : Option Value) (epu : Nat), om.data = .cell v0 ∧ m' = M6 m0 [(Str.ofString "units", some (.ref U))] ∧ n' = (lv, W.listOf vs.toArray ep) :: (U, W.listOf uvs.toArray epu) :: (L' + 1 + 1, om) :: (L' + 1, oz) :: news ∧ IntsAre uvs ((([1, 3, 5, 2, 4, -1, -3, -2] : List Int).take i).filter (copB sz)) ∧ uvs.length ≤ i)) (vs := vs) (lo := W.listOf vs.toArray ep) rfl F2 N2 (.head _) rfl rfl ?h0 ?hJ ?turn ?done
    case h0 => exact ⟨[], om, v0, 0, hom, rfl, rfl, .nil, Nat.le_refl _⟩
    case hJ =>
      rintro i m' n' ⟨uvs, om, v0, epu, _, _, rfl, _⟩
      exact .head _
    case done =>
      rintro h3 tk3 m' n' F3 N3 ⟨uvs, om, v0, epu, hom, rfl, rfl, huv, _⟩
      have hvl := hvs.length
      rw [hvl, List.take_of_length_le (Nat.le_refl _)] at huv
      k_steps
      refine' ret _ _ epu U uvs ?r1 ?r2 hU2 ?r3
      case r1 => assumption
      case r2 =>
        rename News h₀ _ _ _ => N9
        exact News.sub N9 (by walk_at "mine sub2")
      case r3 => exact huv
    case turn =>
      rintro I i v m₁ n₁ it h tk3 hv ⟨uvs, om, v0, epu, hom, rfl, rfl, huv, hul⟩ hit hne F₁ N₁
      obtain ⟨t, hlt, rfl⟩ := ints_at hvs hv
      have hil : i < 8 := hlt
      have htk : ([1, 3, 5, 2, 4, -1, -3, -2] : List Int).take (i + 1) = ([1, 3, 5, 2, 4, -1, -3, -2] : List Int).take i ++ [([1, 3, 5, 2, 4, -1, -3, -2] : List Int).getD i 0] := by
        rw [List.take_add_one, List.getD_eq_getElem?_getD, List.getElem?_eq_getElem hlt]; rfl
      generalize hxv : List.getD ([1, 3, 5, 2, 4, -1, -3, -2] : List Int) i (0 : Int) = xv at *
      have hne2 := neAll_of hne
      simp only [NeAll] at hne2
      replace F₁ : Fr g' L' h _ := F₁
      replace N₁ : News g' L' h _ := N₁
      k_steps
      refine LCt.ListComp_T (F₀ := by k_asm) (by with_unfolding_all rfl) (by decide) (by rfl) (by decide) (by rfl) ?_
      k_steps
      unfold Stop
      rename IsRange _ _ _ _ _ _ _ _ => hR3
      rename News _ _ _ _ => N3
      rename Fr _ _ _ _ => F3
      obtain ⟨n3, en3⟩ := capN2 N3
      obtain ⟨k, hk⟩ : ∃ k : Nat, sz - 1 = k := ⟨(sz - 1).toNat, by omega⟩
      refine' LCt.CompSrcT.range (n := k) rfl F3 N3 hR3 (rng_smallA k (by omega) (by omega)) (rng_sizeA 2 k (by omega)) (by rw [sizeLine_eq]; omega) ?_
      intro g
      refine compInvT (J := fun j yc nw => Stop (nw = n3 ∧ ∃ zs, IntsAre yc zs ∧ (zs = [] ↔ ∀ j', j' < j → badB sz xv j' = false) ∧ zs.length ≤ j)) ?tu ?fi _ 0 [] _ (Nat.zero_add _) ⟨en3, [], .nil, ⟨fun _ j hj => absurd hj (Nat.not_lt_zero _), fun _ => rfl⟩, Nat.le_refl _⟩
      case tu =>
        rintro j yc nw v I2 oI C oC Dc m₂ h4 tk4 E' hj ⟨rfl, zs, hyc, hzs, hzl⟩ hv hC hx F4 N4 off ne
        subst en3
        obtain ⟨t5, rfl⟩ := hv
        k_steps
        · refine ⟨rfl, zs ++ [2 + (j : Int)], IntsAre.append hyc (.cons _ _ .nil), bad_stop ?_, by rw [List.length_append, List.length_singleton]; omega⟩
          rename sz.fmod _ = 0 => e1
          rename xv.fmod _ = 0 => e2
          unfold badB
          rw [decide_eq_true e1, decide_eq_true e2]; rfl
        · refine ⟨rfl, zs, hyc, bad_step hzs ?_, by omega⟩
          rename ¬ xv.fmod _ = 0 => e2
          unfold badB
          rw [decide_eq_false e2, Bool.and_false]
        · refine ⟨rfl, zs, hyc, bad_step hzs ?_, by omega⟩
          rename ¬ sz.fmod _ = 0 => e2
          unfold badB
          rw [decide_eq_false e2, Bool.false_and]
      case fi =>
        rintro yc nw ⟨rfl, zs, hyc, hzs, hzl⟩
        subst en3
        unfold LCg.FinE
        intro D5 h5 tk5 F5 N5 o5
        have o6 := off1_mem o5
        have hc := copB_of hk hzs
        have hDU := o6 (U, W.listOf uvs.toArray epu) (.tail _ (.tail _ (.head _)))
        simp only [LCg.Off1] at o5
        k_steps
        · refine' TurnEnd.intro ?tF ?tN ?tn ?tJ
          case tF => assumption
          case tJ => 
            refine' ⟨uvs ++ [.int xv t], _, _, epu + 1, ?ja, rfl, rfl, ?jb, by rw [List.length_append, List.length_singleton]; omega⟩
            case ja => assumption
            case jb =>
              rw [htk, List.filter_append]
              rename decide (zs = []) = true => hz
              rw [List.filter_cons_of_pos (by rw [← hc]; exact hz)]
              exact IntsAre.append huv (.cons _ _ .nil)
          case tN =>
            rename News _ _ _ _ => N9
            exact News.sub N9 (by walk_at "mine sub2")
          case tn =>
            intro p hp
            rcases List.mem_cons.mp hp with rfl | hp
            · exact hne _ (.head _)
            · rcases List.mem_cons.mp hp with rfl | hp
              · exact hne (U, W.listOf uvs.toArray epu) (.tail _ (.head _))
              · rcases List.mem_cons.mp hp with rfl | hp
                · exact hne (L' + 1 + 1, om) (.tail _ (.tail _ (.head _)))
                · exact hne p (.tail _ (.tail _ (.tail _ hp)))
        · refine' TurnEnd.intro ?tFb ?tNb ?tnb ?tJb
          case tFb => assumption
          case tJb => 
            refine' ⟨uvs, _, _, epu, ?jab, rfl, rfl, ?jbb, by omega⟩
            case jab => assumption
            case jbb =>
              rw [htk, List.filter_append]
              rename decide (zs = []) = false => hz
              rw [List.filter_cons_of_neg (by rw [← hc, hz]; decide)]
              simpa using huv
          case tNb =>
            rename News _ _ _ _ => N9
            exact News.sub N9 (by walk_at "mine sub2")
          case tnb =>
            intro p hp
            rcases List.mem_cons.mp hp with rfl | hp
            · exact hne _ (.head _)
            · rcases List.mem_cons.mp hp with rfl | hp
              · exact hne (U, W.listOf uvs.toArray epu) (.tail _ (.head _))
              · rcases List.mem_cons.mp hp with rfl | hp
                · exact hne (L' + 1 + 1, om) (.tail _ (.tail _ (.head _)))
                · exact hne p (.tail _ (.tail _ (.tail _ hp)))
end
end
section
def mkI (size : Int) (base x : Int) : Int := (x.fmod base).fmod size
def stepI (base : Int) (fs cs : List Int) (size x : Int) : Int := fs.getD (mkI size base x).toNat 0 * x.fdiv base + cs.getD (mkI size base x).toNat 0
def walkI (base : Int) (fs cs : List Int) (size : Int) : Nat → Int → List Int × Int
  | 0, x => ([], x)
  | n + 1, x => let r := walkI base fs cs size n x; (r.1 ++ [mkI size base r.2], stepI base fs cs size r.2)
theorem walkI_len (base : Int) (fs cs : List Int) (size x : Int) : ∀ n, (walkI base fs cs size n x).1.length = n
  | 0 => rfl
  | n + 1 => by
    show ((walkI base fs cs size n x).1 ++ [_]).length = _
    rw [List.length_append, walkI_len base fs cs size x n]; rfl
theorem walkI_head (base : Int) (fs cs : List Int) (size x : Int) : ∀ n, walkI base fs cs size (n + 1) x = (mkI size base x :: (walkI base fs cs size n (stepI base fs cs size x)).1, (walkI base fs cs size n (stepI base fs cs size x)).2)
  | 0 => rfl
  | n + 1 => by
    show ((walkI base fs cs size (n + 1) x).1 ++ [mkI size base (walkI base fs cs size (n + 1) x).2], stepI base fs cs size (walkI base fs cs size (n + 1) x).2) = _
    rw [walkI_head base fs cs size x n]
    rfl
theorem walkI_add (base : Int) (fs cs : List Int) (size x : Int) (n : Nat) : ∀ k, (walkI base fs cs size (n + k) x).1 = (walkI base fs cs size n x).1 ++ (walkI base fs cs size k (walkI base fs cs size n x).2).1 ∧ (walkI base fs cs size (n + k) x).2 = (walkI base fs cs size k (walkI base fs cs size n x).2).2
  | 0 => ⟨by simp [walkI], rfl⟩
  | k + 1 => by
    obtain ⟨a, b⟩ := walkI_add base fs cs size x n k
    refine ⟨?_, ?_⟩
    · show (walkI base fs cs size (n + k) x).1 ++ [mkI size base (walkI base fs cs size (n + k) x).2] = _ ++ ((walkI base fs cs size k _).1 ++ [mkI size base (walkI base fs cs size k _).2])
      rw [a, b, List.append_assoc]
    · show stepI base fs cs size (walkI base fs cs size (n + k) x).2 = stepI base fs cs size (walkI base fs cs size k _).2
      rw [b]
theorem walkI_take (base : Int) (fs cs : List Int) (size x : Int) {k n : Nat} (h : k ≤ n) : (walkI base fs cs size n x).1.take k = (walkI base fs cs size k x).1 := by
  obtain ⟨j, rfl⟩ : ∃ j, n = k + j := ⟨n - k, by omega⟩
  rw [(walkI_add base fs cs size x k j).1, List.take_append, walkI_len, Nat.sub_self, List.take_zero, List.append_nil, List.take_of_length_le (Nat.le_of_eq (walkI_len ..))]
def Un (s f : Int) : Prop := ∃ g h, g * f + h * s = 1
theorem Un.mul {s a b : Int} (x : Un s a) (y : Un s b) : Un s (a * b) := by
  obtain ⟨g, h, e⟩ := x
  obtain ⟨g', h', e'⟩ := y
  exact ⟨g * g', g * a * h' + h * g' * b + h * h' * s, by grind⟩
theorem Un.one {s : Int} : Un s 1 := ⟨1, 0, by omega⟩
theorem Un.shift {s a : Int} (x : Un s a) (k : Int) : Un s (s * k - a) := by
  obtain ⟨g, h, e⟩ := x
  exact ⟨-g, h + g * k, by grind⟩
theorem Un.dvd {s f x : Int} (u : Un s f) (h : s ∣ f * x) : s ∣ x := by
  obtain ⟨g, k, e⟩ := u
  obtain ⟨y, hy⟩ := h
  exact ⟨g * y + k * x, by grind⟩
theorem Un.dvdPow {s f : Int} (u : Un s f) (hs : s ≠ 0) : ∀ (k : Nat) (x : Int), s ^ k ∣ f * x ↔ s ^ k ∣ x
  | 0, x => by simp [Int.pow_zero]
  | k + 1, x => by
    constructor
    · intro h
      have h1 : s ∣ f * x := Int.dvd_trans ⟨s ^ k, by rw [Int.pow_succ, Int.mul_comm]⟩ h
      obtain ⟨y, rfl⟩ := u.dvd h1
      obtain ⟨z, hz⟩ := h
      have h2 : s ^ k ∣ f * y := ⟨z, by
        have e : s * (f * y) = s * (s ^ k * z) := by rw [Int.pow_succ] at hz; grind
        exact Int.eq_of_mul_eq_mul_left hs e⟩
      obtain ⟨q, rfl⟩ := (u.dvdPow hs k y).mp h2
      exact ⟨q, by rw [Int.pow_succ]; grind⟩
    · rintro ⟨q, rfl⟩
      exact ⟨f * q, by grind⟩
section
variable {sz b D e : Int} {fs cs ts : List Int}
def lowI (b sz i : Int) : Int := if b < 0 ∧ 0 < i then i - sz else i
theorem mk_range (hs : 2 ≤ sz) (x : Int) : 0 ≤ mkI sz b x ∧ mkI sz b x < sz :=
  ⟨Int.fmod_nonneg_of_pos _ (by omega), Int.fmod_lt_of_pos _ (by omega)⟩
theorem mk_cong (hb : b = sz ∨ b = -sz) (x : Int) : sz ∣ x - mkI sz b x := by
  have h1 : b ∣ x - x.fmod b := ⟨x.fdiv b, by have := Int.mul_fdiv_add_fmod x b; omega⟩
  have h2 : sz ∣ x.fmod b - (x.fmod b).fmod sz := ⟨(x.fmod b).fdiv sz, by have := Int.mul_fdiv_add_fmod (x.fmod b) sz; omega⟩
  have h3 : sz ∣ x - x.fmod b := by
    rcases hb with rfl | rfl
    · exact h1
    · exact Int.neg_dvd.mp h1
  have := Int.dvd_add h3 h2
  have e : x - x.fmod b + (x.fmod b - (x.fmod b).fmod sz) = x - mkI sz b x := by unfold mkI; omega
  rwa [e] at this
theorem mkOf {m x : Int} (hs : 2 ≤ sz) (hb : b = sz ∨ b = -sz) (hm0 : 0 ≤ m) (hm1 : m < sz) (h : sz ∣ x - m) : mkI sz b x = m := by
  have h1 := mk_range (b := b) hs x
  have h2 := mk_cong hb x
  have h3 : sz ∣ mkI sz b x - m := by
    have := Int.dvd_sub h h2
    have e : x - m - (x - mkI sz b x) = mkI sz b x - m := by omega
    rwa [e] at this
  obtain ⟨k, hk⟩ := h3
  have : k = 0 := by
    rcases Int.lt_trichotomy k 0 with h | h | h
    · have : sz * k ≤ sz * (-1) := Int.mul_le_mul_of_nonneg_left (by omega) (by omega)
      omega
    · exact h
    · have : sz * 1 ≤ sz * k := Int.mul_le_mul_of_nonneg_left (by omega) (by omega)
      omega
  subst this
  omega
theorem mk_iff (hs : 2 ≤ sz) (hb : b = sz ∨ b = -sz) (x y : Int) : mkI sz b x = mkI sz b y ↔ sz ∣ x - y := by
  have h1 := mk_cong hb x
  have h2 := mk_cong hb y
  constructor
  · intro h
    have := Int.dvd_sub h1 h2
    have e : x - mkI sz b x - (y - mkI sz b y) = x - y := by omega
    rwa [e] at this
  · intro h
    refine mkOf hs hb (mk_range hs y).1 (mk_range hs y).2 ?_
    have := Int.dvd_add h h2
    have e : x - y + (y - mkI sz b y) = x - mkI sz b y := by omega
    rwa [e] at this
theorem low_eq (hs : 2 ≤ sz) (hb : b = sz ∨ b = -sz) (x : Int) : lowI b sz (mkI sz b x) = x.fmod b := by
  unfold lowI mkI
  rcases hb with rfl | rfl
  · have h0 := Int.fmod_nonneg_of_pos x (b := b) (by omega)
    have h1 := Int.fmod_lt_of_pos x (b := b) (by omega)
    rw [if_neg (by omega), Int.fmod_eq_emod_of_nonneg _ (by omega), Int.emod_eq_of_lt h0 h1]
  · have e : x.fmod (-sz) = -((-x).fmod sz) := by
      have := Int.neg_fmod_neg (-x) sz
      rw [Int.neg_neg] at this
      exact this
    have h0 := Int.fmod_nonneg_of_pos (-x) (b := sz) (by omega)
    have h1 := Int.fmod_lt_of_pos (-x) (b := sz) (by omega)
    rw [e]
    generalize (-x).fmod sz = r at *
    rw [Int.fmod_eq_emod_of_nonneg (-r) (by omega)]
    by_cases hr : r = 0
    · subst hr
      simp
    · have e2 : (-r) % sz = sz - r := by
        rw [← Int.add_emod_right, Int.emod_eq_of_lt (by omega) (by omega)]; omega
      rw [e2, if_pos (by omega)]; omega
structure Sys (sz b D : Int) (fs cs ts : List Int) : Prop where
  s2 : 2 ≤ sz
  hb : b = sz ∨ b = -sz
  un : ∀ i : Int, 0 ≤ i → i < sz → Un sz (fs.getD i.toNat 0)
  eq : ∀ i : Int, 0 ≤ i → i < sz → b * cs.getD i.toNat 0 = fs.getD i.toNat 0 * lowI b sz i + ts.getD i.toNat 0 * D
theorem Sys.step (S : Sys sz b D fs cs ts) (x : Int) : b * stepI b fs cs sz x = fs.getD (mkI sz b x).toNat 0 * x + ts.getD (mkI sz b x).toNat 0 * D := by
  obtain ⟨h0, h1⟩ := mk_range (b := b) S.s2 x
  have h2 := S.eq _ h0 h1
  rw [low_eq S.s2 S.hb] at h2
  have h3 := Int.mul_fdiv_add_fmod x b
  unfold stepI
  grind
theorem Sys.b0 (S : Sys sz b D fs cs ts) : b ≠ 0 := by have := S.s2; have := S.hb; omega
theorem Sys.terras (S : Sys sz b D fs cs ts) : ∀ (k : Nat) (x y : Int), (walkI b fs cs sz k x).1 = (walkI b fs cs sz k y).1 ↔ sz ^ k ∣ x - y
  | 0, x, y => by simp [walkI]
  | k + 1, x, y => by
    rw [walkI_head, walkI_head]
    show mkI sz b x :: _ = mkI sz b y :: _ ↔ _
    rw [List.cons.injEq, S.terras k, mk_iff S.s2 S.hb]
    have hs0 : sz ≠ 0 := by have := S.s2; omega
    have key : sz ∣ x - y → (sz ^ k ∣ stepI b fs cs sz x - stepI b fs cs sz y ↔ sz ^ (k + 1) ∣ x - y) := by
      intro h
      have hm := (mk_iff S.s2 S.hb x y).mpr h
      have hx := S.step x
      have hy := S.step y
      rw [← hm] at hy
      obtain ⟨h0, h1⟩ := mk_range (b := b) S.s2 x
      have hu := S.un _ h0 h1
      generalize mkI sz b x = m at *
      have e : b * (stepI b fs cs sz x - stepI b fs cs sz y) = fs.getD m.toNat 0 * (x - y) := by grind
      rw [← hu.dvdPow hs0 (k + 1) (x - y), ← e]
      generalize stepI b fs cs sz x - stepI b fs cs sz y = d at *
      rcases S.hb with hb | hb
      · rw [hb, Int.pow_succ]
        constructor
        · rintro ⟨q, rfl⟩
          exact ⟨q, by grind⟩
        · rintro ⟨q, hq⟩
          exact ⟨q, Int.eq_of_mul_eq_mul_left hs0 (by grind)⟩
      · rw [hb, Int.pow_succ]
        constructor
        · rintro ⟨q, rfl⟩
          exact ⟨-q, by grind⟩
        · rintro ⟨q, hq⟩
          exact ⟨-q, Int.eq_of_mul_eq_mul_left hs0 (by grind)⟩
    constructor
    · rintro ⟨h1, h2⟩
      exact (key h1).mp h2
    · intro h
      have h1 : sz ∣ x - y := Int.dvd_trans ⟨sz ^ k, by rw [Int.pow_succ, Int.mul_comm]⟩ h
      exact ⟨h1, (key h1).mpr h⟩
end
def prI (fs : List Int) (row : List Int) : Int := row.foldl (fun p m => p * fs.getD m.toNat 0) 1
def stI (b : Int) (fs ts : List Int) (row : List Int) : Int × Int := row.foldl (fun q m => (fs.getD m.toNat 0 * q.1 + ts.getD m.toNat 0 * q.2, q.2 * b)) (0, 1)
section
variable (b : Int) (fs ts : List Int)
theorem pr_fold (row : List Int) : ∀ p : Int, row.foldl (fun p m => p * fs.getD m.toNat 0) p = p * prI fs row := by
  induction row with
  | nil => intro p; simp [prI]
  | cons m r ih =>
    intro p
    unfold prI
    rw [List.foldl_cons, List.foldl_cons, ih, ih (1 * _)]
    grind
theorem pr_cons (m : Int) (r : List Int) : prI fs (m :: r) = fs.getD m.toNat 0 * prI fs r := by
  show List.foldl _ (1 * _) r = _
  rw [pr_fold]; grind
theorem pr_append (r q : List Int) : prI fs (r ++ q) = prI fs r * prI fs q := by
  show List.foldl _ 1 (r ++ q) = _
  rw [List.foldl_append, pr_fold]; rfl
theorem pr_snoc (m : Int) (r : List Int) : prI fs (r ++ [m]) = prI fs r * fs.getD m.toNat 0 := by
  rw [pr_append]
  show _ * (1 * _) = _
  grind
theorem st_snoc (m : Int) (r : List Int) : stI b fs ts (r ++ [m]) = (fs.getD m.toNat 0 * (stI b fs ts r).1 + ts.getD m.toNat 0 * (stI b fs ts r).2, (stI b fs ts r).2 * b) := by
  unfold stI
  rw [List.foldl_append]; rfl
theorem st_pow (row : List Int) : (stI b fs ts row).2 = b ^ row.length := by
  have key : ∀ (row : List Int) (q : Int × Int), (row.foldl (fun q m => (fs.getD m.toNat 0 * q.1 + ts.getD m.toNat 0 * q.2, q.2 * b)) q).2 = q.2 * b ^ row.length := by
    intro row
    induction row with
    | nil => intro q; simp
    | cons m r ih =>
      intro q
      rw [List.foldl_cons, ih, List.length_cons, Int.pow_succ]
      grind
  unfold stI
  rw [key]; simp
theorem st_fold (row : List Int) : ∀ q : Int × Int, (row.foldl (fun q m => (fs.getD m.toNat 0 * q.1 + ts.getD m.toNat 0 * q.2, q.2 * b)) q).1 = prI fs row * q.1 + q.2 * (stI b fs ts row).1 := by
  induction row with
  | nil => intro q; simp [prI, stI]
  | cons m r ih =>
    intro q
    have e : (stI b fs ts (m :: r)).1 = prI fs r * (fs.getD m.toNat 0 * 0 + ts.getD m.toNat 0 * 1) + 1 * b * (stI b fs ts r).1 := ih _
    rw [List.foldl_cons, ih, e, pr_cons]
    grind
theorem st_cons (m : Int) (r : List Int) : (stI b fs ts (m :: r)).1 = prI fs r * ts.getD m.toNat 0 + b * (stI b fs ts r).1 := by
  have e : (stI b fs ts (m :: r)).1 = prI fs r * (fs.getD m.toNat 0 * 0 + ts.getD m.toNat 0 * 1) + 1 * b * (stI b fs ts r).1 := st_fold b fs ts r _
  rw [e]; grind
end
section
variable {sz b D e : Int} {fs cs ts : List Int}
def Mks (sz : Int) (row : List Int) : Prop := ∀ m ∈ row, 0 ≤ m ∧ m < sz
def Trm (sz e : Int) (fs ts : List Int) : Prop := ∀ i : Int, 0 ≤ i → i < sz → sz ∣ ts.getD i.toNat 0 + fs.getD i.toNat 0 * i * e
theorem st_mark (S : Sys sz b D fs cs ts) (hT : Trm sz e fs ts) (he : sz ∣ e * D - 1) {m : Int} {r : List Int} (hm : 0 ≤ m ∧ m < sz) (hD : D = b ^ (r.length + 1) - prI fs (m :: r)) : mkI sz b (stI b fs ts (m :: r)).1 = m := by
  refine mkOf S.s2 S.hb hm.1 hm.2 ?_
  obtain ⟨k1, h1⟩ := hT m hm.1 hm.2
  obtain ⟨k2, h2⟩ := he
  obtain ⟨ε, hε⟩ : ∃ ε, b = ε * sz := by
    rcases S.hb with h | h
    · exact ⟨1, by omega⟩
    · exact ⟨-1, by omega⟩
  rw [pr_cons, Int.pow_succ] at hD
  rw [st_cons]
  generalize b ^ r.length = B at *
  generalize prI fs r = P at *
  generalize (stI b fs ts r).1 = Sr at *
  generalize fs.getD m.toNat 0 = f at *
  generalize ts.getD m.toNat 0 = t at *
  exact ⟨-ε * B * m * e + k2 * m + k1 * P + ε * Sr, by grind⟩
theorem st_step (S : Sys sz b D fs cs ts) (hT : Trm sz e fs ts) (he : sz ∣ e * D - 1) {m : Int} {r : List Int} (hm : 0 ≤ m ∧ m < sz) (hD : D = b ^ (r.length + 1) - prI fs (m :: r)) : stepI b fs cs sz (stI b fs ts (m :: r)).1 = (stI b fs ts (r ++ [m])).1 := by
  have h1 := S.step (stI b fs ts (m :: r)).1
  rw [st_mark S hT he hm hD, st_cons] at h1
  rw [pr_cons, Int.pow_succ] at hD
  refine Int.eq_of_mul_eq_mul_left S.b0 ?_
  rw [st_cons, st_snoc, st_pow, h1]
  generalize b ^ r.length = B at *
  generalize prI fs r = P at *
  generalize (stI b fs ts r).1 = Sr at *
  generalize fs.getD m.toNat 0 = f at *
  generalize ts.getD m.toNat 0 = t at *
  grind
theorem st_walk (S : Sys sz b D fs cs ts) (hT : Trm sz e fs ts) (he : sz ∣ e * D - 1) {row : List Int} (hm : Mks sz row) (hD : D = b ^ row.length - prI fs row) :
    ∀ j, j ≤ row.length → walkI b fs cs sz j (stI b fs ts row).1 = (row.take j, (stI b fs ts (row.drop j ++ row.take j)).1)
  | 0, _ => by simp [walkI]
  | j + 1, hj => by
    have ih := st_walk S hT he hm hD j (by omega)
    have hlt : j < row.length := hj
    have ed : row.drop j = row[j] :: row.drop (j + 1) := List.drop_eq_getElem_cons hlt
    have et : row.take (j + 1) = row.take j ++ [row[j]] := by rw [List.take_add_one, List.getElem?_eq_getElem hlt]; rfl
    have hmj := hm _ (List.getElem_mem hlt)
    have hD2 : D = b ^ ((row.drop (j + 1) ++ row.take j).length + 1) - prI fs (row[j] :: (row.drop (j + 1) ++ row.take j)) := by
      have e1 : (row.drop (j + 1) ++ row.take j).length + 1 = row.length := by simp only [List.length_append, List.length_drop, List.length_take]; omega
      have e2 : prI fs (row[j] :: (row.drop (j + 1) ++ row.take j)) = prI fs row := by
        rw [← List.cons_append, ← ed, pr_append]
        conv => rhs; rw [← List.take_append_drop j row, pr_append]
        grind
      rw [e1, e2]; exact hD
    show ((walkI b fs cs sz j (stI b fs ts row).1).1 ++ [mkI sz b (walkI b fs cs sz j (stI b fs ts row).1).2], stepI b fs cs sz (walkI b fs cs sz j (stI b fs ts row).1).2) = _
    rw [ih]
    show (row.take j ++ [mkI sz b (stI b fs ts (row.drop j ++ row.take j)).1], stepI b fs cs sz (stI b fs ts (row.drop j ++ row.take j)).1) = _
    rw [ed, List.cons_append, st_mark S hT he hmj hD2, st_step S hT he hmj hD2, et, List.append_assoc]
theorem st_round (S : Sys sz b D fs cs ts) (hT : Trm sz e fs ts) (he : sz ∣ e * D - 1) {row : List Int} (hm : Mks sz row) (hD : D = b ^ row.length - prI fs row) :
    walkI b fs cs sz row.length (stI b fs ts row).1 = (row, (stI b fs ts row).1) := by
  rw [st_walk S hT he hm hD _ (Nat.le_refl _)]
  simp
theorem st_marks (S : Sys sz b D fs cs ts) (hT : Trm sz e fs ts) (he : sz ∣ e * D - 1) {row : List Int} (hm : Mks sz row) (hD : D = b ^ row.length - prI fs row) :
    ∀ (q j : Nat), j ≤ row.length * q → (walkI b fs cs sz j (stI b fs ts row).1).1 = (List.replicate q row).flatten.take j
  | 0, j, h => by
    obtain rfl : j = 0 := by omega
    simp [walkI]
  | q + 1, j, h => by
    rw [List.replicate_succ, List.flatten_cons]
    by_cases hj : j ≤ row.length
    · rw [st_walk S hT he hm hD j hj, List.take_append_of_le_length hj]
    · obtain ⟨i, rfl⟩ : ∃ i, j = row.length + i := ⟨j - row.length, by omega⟩
      have h2 : row.length + i ≤ row.length * q + row.length := by rw [← Nat.mul_succ]; exact h
      rw [(walkI_add b fs cs sz _ row.length i).1, st_round S hT he hm hD, st_marks S hT he hm hD q i (by omega), List.take_append, Nat.add_sub_cancel_left, List.take_of_length_le (Nat.le_add_right _ _)]
theorem st_due (S : Sys sz b D fs cs ts) (hT : Trm sz e fs ts) (he : sz ∣ e * D - 1) {row : List Int} (hm : Mks sz row) (hr : 1 ≤ row.length) (hD : D = b ^ row.length - prI fs row) {k : Nat} (hk : k ≤ 5) (y : Int) :
    ((List.replicate 5 row).flatten.take k <+: (walkI b fs cs sz 5 y).1) ↔ sz ^ k ∣ y - (stI b fs ts row).1 := by
  have h5 : k ≤ row.length * 5 := Nat.le_trans hk (Nat.le_mul_of_pos_left 5 hr)
  rw [← st_marks S hT he hm hD 5 k h5, List.prefix_iff_eq_take, walkI_len, walkI_take _ _ _ _ _ hk, S.terras]
  have e : (stI b fs ts row).1 - y = -(y - (stI b fs ts row).1) := by omega
  rw [e, Int.dvd_neg]
end
end
section
open PySem PySem.W PyProof.Rows PySem.Calls
set_option maxRecDepth 100000
set_option maxHeartbeats 8000000
theorem units_2 : unitsI 2 = [1, 3, 5, -1, -3] := by decide +kernel
theorem units_3 : unitsI 3 = [1, 5, 2, 4, -1, -2] := by decide +kernel
theorem units_4 : unitsI 4 = [1, 3, 5, -1, -3] := by decide +kernel
theorem units_5 : unitsI 5 = [1, 3, 2, 4, -1, -3, -2] := by decide +kernel
def Fac (sz f : Int) : Prop := Un sz f ∧ -5 ≤ f ∧ f ≤ 5
theorem fac_of {sz : Int} {l : List Int} (h : (l.all fun f => f * f * f * f + (1 - f * f * f * f) / sz * sz == 1 && decide (-5 ≤ f) && decide (f ≤ 5)) = true) : ∀ f ∈ l, Fac sz f := fun f hf => by
  have := List.all_eq_true.mp h f hf
  simp only [Bool.and_eq_true, decide_eq_true_eq, beq_iff_eq] at this
  exact ⟨⟨f * f * f, (1 - f * f * f * f) / sz, this.1.1⟩, this.1.2, this.2⟩
theorem units_ok {sz : Int} (h2 : 2 ≤ sz) (h5 : sz ≤ 5) : 1 ≤ (unitsI sz).length ∧ (unitsI sz).length ≤ 8 ∧ ∀ f ∈ unitsI sz, Fac sz f := by
  have h : sz = 2 ∨ sz = 3 ∨ sz = 4 ∨ sz = 5 := by omega
  rcases h with rfl | rfl | rfl | rfl
  · rw [units_2]; exact ⟨by decide, by decide, fac_of (by decide +kernel)⟩
  · rw [units_3]; exact ⟨by decide, by decide, fac_of (by decide +kernel)⟩
  · rw [units_4]; exact ⟨by decide, by decide, fac_of (by decide +kernel)⟩
  · rw [units_5]; exact ⟨by decide, by decide, fac_of (by decide +kernel)⟩
section
variable {prog : Program} {w : World} {A : Around} {E : Value → Shared → Prop} {s : Shared} {h₀ : Heap} {L : Addr} {news : List (Addr × Obj)}
theorem itemI {value slice : PySem.Expr} {l : Addr} {vs : List Value} {ns : List Int} {ep : Nat} {k : Int} {u : Tok} {Q : Value → Shared → Prop} (N : News h₀ L s.heap news) (hm : (l, W.listOf vs.toArray ep) ∈ news) (hI : IntsAre vs ns) (hk0 : 0 ≤ k) (hk1 : k < (ns.length : Int)) (hz : ns.length ≤ 1000000)
    (h : ∀ t, Q (.int (ns.getD k.toNat 0) t) s)
    (hs : subscripted slice false (.ref l) (.int k u) = operate [.ref l, .int k u] (getItem (.ref l) (.int k u)) := by with_unfolding_all rfl) :
    wpAny (model prog w) A (subscriptTail value slice (.ref l) (.int k u)) Q E s := by
  obtain ⟨t, hx⟩ := hI.get k.toNat _ (ints_getD (k := k) (by omega) (by omega))
  exact itemV N hm (i := k.toNat) (by omega) hx (by omega) (h t) hs
end
theorem getD_mem {us : List Int} {k : Int} (h0 : 0 ≤ k) (h1 : k < (us.length : Int)) : us.getD k.toNat 0 ∈ us := by
  rw [List.getD_eq_getElem?_getD, List.getElem?_eq_getElem (by omega)]
  exact List.getElem_mem _
theorem facs_of {sz : Int} {fs : List Int} (hl : (fs.length : Int) = sz) (h : ∀ f ∈ fs, Fac sz f) : ∀ i : Int, 0 ≤ i → i < sz → Fac sz (fs.getD i.toNat 0) := fun i h0 h1 => h _ (getD_mem h0 (by omega))
end
section
section
variable {sz b D e : Int} {fs cs ts row : List Int}
theorem pr_un (hF : ∀ i : Int, 0 ≤ i → i < sz → Fac sz (fs.getD i.toNat 0)) : ∀ {row : List Int}, Mks sz row → Un sz (prI fs row)
  | [], _ => Un.one
  | m :: r, h => by
    rw [pr_cons]
    have hm := h m (.head _)
    exact (hF m hm.1 hm.2).1.mul (pr_un hF fun x hx => h x (.tail _ hx))
theorem mul_bd {x y A B : Int} (hx : -A ≤ x ∧ x ≤ A) (hy : -B ≤ y ∧ y ≤ B) : -(A * B) ≤ x * y ∧ x * y ≤ A * B := by
  have h1 : (x * y).natAbs ≤ A.natAbs * B.natAbs := by
    rw [Int.natAbs_mul]
    exact Nat.mul_le_mul (by omega) (by omega)
  have h2 : ((A.natAbs * B.natAbs : Nat) : Int) = A * B := by
    rw [Int.natCast_mul, Int.natAbs_of_nonneg (by omega), Int.natAbs_of_nonneg (by omega)]
  omega
theorem pr_bd (hF : ∀ i : Int, 0 ≤ i → i < sz → Fac sz (fs.getD i.toNat 0)) : ∀ {row : List Int}, Mks sz row → row.length ≤ 3 → -125 ≤ prI fs row ∧ prI fs row ≤ 125
  | [], _, _ => by
    show -125 ≤ (1 : Int) ∧ (1 : Int) ≤ 125
    decide
  | [a], h, _ => by
    have ha := (hF a (h a (by simp)).1 (h a (by simp)).2).2
    rw [pr_cons]
    show -125 ≤ fs.getD a.toNat 0 * 1 ∧ fs.getD a.toNat 0 * 1 ≤ 125
    omega
  | [a, c], h, _ => by
    have ha := (hF a (h a (by simp)).1 (h a (by simp)).2).2
    have hc := (hF c (h c (by simp)).1 (h c (by simp)).2).2
    rw [pr_cons, pr_cons]
    show -125 ≤ fs.getD a.toNat 0 * (fs.getD c.toNat 0 * 1) ∧ fs.getD a.toNat 0 * (fs.getD c.toNat 0 * 1) ≤ 125
    rw [Int.mul_one]
    have := mul_bd ha hc
    omega
  | [a, c, d], h, _ => by
    have ha := (hF a (h a (by simp)).1 (h a (by simp)).2).2
    have hc := (hF c (h c (by simp)).1 (h c (by simp)).2).2
    have hd := (hF d (h d (by simp)).1 (h d (by simp)).2).2
    rw [pr_cons, pr_cons, pr_cons]
    show -125 ≤ fs.getD a.toNat 0 * (fs.getD c.toNat 0 * (fs.getD d.toNat 0 * 1)) ∧ fs.getD a.toNat 0 * (fs.getD c.toNat 0 * (fs.getD d.toNat 0 * 1)) ≤ 125
    rw [Int.mul_one]
    have := mul_bd ha (mul_bd hc hd)
    omega
  | _ :: _ :: _ :: _ :: _, _, h => by simp at h
theorem pow_bd (hb : -5 ≤ b ∧ b ≤ 5) {n : Nat} (hn : n ≤ 3) : -125 ≤ b ^ n ∧ b ^ n ≤ 125 := by
  have h2 := mul_bd hb hb
  have h3 := mul_bd hb (mul_bd hb hb)
  have e : n = 0 ∨ n = 1 ∨ n = 2 ∨ n = 3 := by omega
  rcases e with rfl | rfl | rfl | rfl
  · rw [Int.pow_zero]; decide
  · rw [Int.pow_succ, Int.pow_zero, Int.one_mul]; omega
  · rw [Int.pow_succ, Int.pow_succ, Int.pow_zero, Int.one_mul]; omega
  · rw [Int.pow_succ, Int.pow_succ, Int.pow_succ, Int.pow_zero, Int.one_mul, Int.mul_comm]; omega
theorem scale_un (hb : b = sz ∨ b = -sz) (h : Un sz (prI fs row)) (hr : 1 ≤ row.length) : Un sz (b ^ row.length - prI fs row) := by
  obtain ⟨k, hk⟩ : ∃ k, b ^ row.length = sz * k := by
    obtain ⟨n, hn⟩ : ∃ n, row.length = n + 1 := ⟨row.length - 1, by omega⟩
    rw [hn, Int.pow_succ]
    rcases hb with hb | hb
    · exact ⟨b ^ n, by rw [hb, Int.mul_comm]⟩
    · exact ⟨-(b ^ n), by rw [hb, Int.mul_comm, Int.neg_mul, Int.mul_neg]⟩
  rw [hk]
  exact h.shift k
theorem inv_ex (hs : 2 ≤ sz) (h : Un sz D) : ∃ j : Nat, 1 + (j : Int) < sz ∧ ((1 + (j : Int)) * D).fmod sz = 1 := by
  obtain ⟨g, k, e⟩ := h
  have h0 := Int.emod_nonneg g (b := sz) (by omega)
  have h1 := Int.emod_lt_of_pos g (b := sz) (by omega)
  have key : (g % sz * D) % sz = 1 := by
    have e2 : g * D = 1 + sz * (-k) := by grind
    have : (g % sz * D) % sz = (g * D) % sz := by rw [Int.mul_emod, Int.emod_emod_of_dvd _ (Int.dvd_refl _), ← Int.mul_emod]
    rw [this, e2, Int.add_mul_emod_self_left]
    exact Int.emod_eq_of_lt (by omega) (by omega)
  have hne : g % sz ≠ 0 := fun hz => by
    rw [hz, Int.zero_mul, Int.zero_emod] at key
    omega
  refine ⟨(g % sz - 1).toNat, by omega, ?_⟩
  rw [Int.fmod_eq_emod_of_nonneg _ (by omega), show (1 : Int) + ((g % sz - 1).toNat : Int) = g % sz by omega]
  exact key
theorem fmod_dvd {x m r : Int} (h : x.fmod m = r) : m ∣ x - r := ⟨x.fdiv m, by have := Int.mul_fdiv_add_fmod x m; omega⟩
theorem trm_ok (f i e c : Int) : sz ∣ ((-f * i * e).fmod sz + sz * c) + f * i * e := by
  have := Int.mul_fdiv_add_fmod (-f * i * e) sz
  exact ⟨c - (-f * i * e).fdiv sz, by grind⟩
theorem low_cong (hb : b = sz ∨ b = -sz) (i : Int) : sz ∣ lowI b sz i - i := by
  unfold lowI
  split
  · exact ⟨-1, by omega⟩
  · exact ⟨0, by omega⟩
theorem car_ok (hb : b = sz ∨ b = -sz) (he : sz ∣ e * D - 1) {f i t : Int} (ht : sz ∣ t + f * i * e) : b * (f * lowI b sz i + t * D).fdiv b = f * lowI b sz i + t * D := by
  obtain ⟨k1, h1⟩ := low_cong hb i
  obtain ⟨k2, h2⟩ := he
  obtain ⟨k3, h3⟩ := ht
  have hd : sz ∣ f * lowI b sz i + t * D := ⟨f * k1 + k3 * D - f * i * k2, by
    have e1 : lowI b sz i = i + sz * k1 := by omega
    have e3 : t = sz * k3 - f * i * e := by omega
    rw [e1, e3]
    grind⟩
  have hd2 : b ∣ f * lowI b sz i + t * D := by
    rcases hb with rfl | rfl
    · exact hd
    · exact Int.neg_dvd.mpr hd
  have := Int.mul_fdiv_add_fmod (f * lowI b sz i + t * D) b
  rw [Int.fmod_eq_zero_of_dvd hd2] at this
  omega
theorem low_bd (hs : 2 ≤ sz) (hs5 : sz ≤ 5) {i : Int} (h0 : 0 ≤ i) (h1 : i < sz) : -4 ≤ lowI b sz i ∧ lowI b sz i ≤ 4 := by
  unfold lowI
  split <;> omega
theorem car_bd (hs : 2 ≤ sz) (hs5 : sz ≤ 5) (hb : b = sz ∨ b = -sz) {f l t c : Int} (hf : -5 ≤ f ∧ f ≤ 5) (hl : -4 ≤ l ∧ l ≤ 4) (ht : -10 ≤ t ∧ t ≤ 10) (hD : -250 ≤ D ∧ D ≤ 250) (h : b * c = f * l + t * D) : -3000 ≤ c ∧ c ≤ 3000 := by
  have h1 := mul_bd hf hl
  have h2 := mul_bd ht hD
  have hs' : sz = 2 ∨ sz = 3 ∨ sz = 4 ∨ sz = 5 := by omega
  rcases hs' with rfl | rfl | rfl | rfl <;> rcases hb with rfl | rfl <;> omega
theorem st_bd (hb : -5 ≤ b ∧ b ≤ 5) (hF : ∀ i : Int, 0 ≤ i → i < sz → -5 ≤ fs.getD i.toNat 0 ∧ fs.getD i.toNat 0 ≤ 5) (hT : ∀ i : Int, 0 ≤ i → i < sz → -10 ≤ ts.getD i.toNat 0 ∧ ts.getD i.toNat 0 ≤ 10) :
    ∀ {row : List Int}, Mks sz row → row.length ≤ 3 → -1000 ≤ (stI b fs ts row).1 ∧ (stI b fs ts row).1 ≤ 1000
  | [], _, _ => by
    show -1000 ≤ (0 : Int) ∧ (0 : Int) ≤ 1000
    decide
  | [a], h, _ => by
    have ha := hT a (h a (by simp)).1 (h a (by simp)).2
    show -1000 ≤ fs.getD a.toNat 0 * 0 + ts.getD a.toNat 0 * 1 ∧ fs.getD a.toNat 0 * 0 + ts.getD a.toNat 0 * 1 ≤ 1000
    omega
  | [a, c], h, _ => by
    have ha := hT a (h a (by simp)).1 (h a (by simp)).2
    have hc := hT c (h c (by simp)).1 (h c (by simp)).2
    have fc := hF c (h c (by simp)).1 (h c (by simp)).2
    rw [st_cons, st_cons, pr_cons]
    show -1000 ≤ fs.getD c.toNat 0 * 1 * ts.getD a.toNat 0 + b * (1 * ts.getD c.toNat 0 + b * 0) ∧ fs.getD c.toNat 0 * 1 * ts.getD a.toNat 0 + b * (1 * ts.getD c.toNat 0 + b * 0) ≤ 1000
    rw [Int.mul_one, Int.one_mul, Int.mul_zero, Int.add_zero]
    have h1 := mul_bd fc ha
    have h2 := mul_bd hb hc
    omega
  | [a, c, d], h, _ => by
    have ha := hT a (h a (by simp)).1 (h a (by simp)).2
    have hc := hT c (h c (by simp)).1 (h c (by simp)).2
    have fc := hF c (h c (by simp)).1 (h c (by simp)).2
    have hd := hT d (h d (by simp)).1 (h d (by simp)).2
    have fd := hF d (h d (by simp)).1 (h d (by simp)).2
    rw [st_cons, st_cons, st_cons, pr_cons, pr_cons]
    show -1000 ≤ fs.getD c.toNat 0 * (fs.getD d.toNat 0 * 1) * ts.getD a.toNat 0 + b * (fs.getD d.toNat 0 * 1 * ts.getD c.toNat 0 + b * (1 * ts.getD d.toNat 0 + b * 0)) ∧ fs.getD c.toNat 0 * (fs.getD d.toNat 0 * 1) * ts.getD a.toNat 0 + b * (fs.getD d.toNat 0 * 1 * ts.getD c.toNat 0 + b * (1 * ts.getD d.toNat 0 + b * 0)) ≤ 1000
    rw [Int.mul_one, Int.one_mul, Int.mul_zero, Int.add_zero, Int.mul_add]
    have h1 := mul_bd (mul_bd fc fd) ha
    have h2 := mul_bd hb (mul_bd fd hc)
    have h3 := mul_bd hb (mul_bd hb hd)
    omega
  | _ :: _ :: _ :: _ :: _, _, h => by simp at h
theorem fdiv_bd (hs : 2 ≤ sz) (hs5 : sz ≤ 5) (hb : b = sz ∨ b = -sz) {x A : Int} (hx : -A ≤ x ∧ x ≤ A) : -(A + 1) ≤ x.fdiv b ∧ x.fdiv b ≤ A + 1 := by
  have h1 := Int.mul_fdiv_add_fmod x b
  have h2 : 1 - sz ≤ x.fmod b ∧ x.fmod b ≤ sz - 1 := by
    have e := low_eq (b := b) hs hb x
    obtain ⟨r0, r1⟩ := mk_range (b := b) hs x
    unfold lowI at e
    split at e <;> omega
  have hs' : sz = 2 ∨ sz = 3 ∨ sz = 4 ∨ sz = 5 := by omega
  generalize x.fdiv b = q at *
  generalize x.fmod b = r at *
  rcases hs' with rfl | rfl | rfl | rfl <;> rcases hb with rfl | rfl <;> omega
theorem walk_bd (hs : 2 ≤ sz) (hs5 : sz ≤ 5) (hb : b = sz ∨ b = -sz) (hF : ∀ i : Int, 0 ≤ i → i < sz → -5 ≤ fs.getD i.toNat 0 ∧ fs.getD i.toNat 0 ≤ 5) (hC : ∀ i : Int, 0 ≤ i → i < sz → -3000 ≤ cs.getD i.toNat 0 ∧ cs.getD i.toNat 0 ≤ 3000)
    {x : Int} (hx : -100000000 ≤ x ∧ x ≤ 100000000) : ∀ i : Nat, ∃ A : Int, 100000000 ≤ A ∧ A = 100000000 * 10 ^ i ∧ -A ≤ (walkI b fs cs sz i x).2 ∧ (walkI b fs cs sz i x).2 ≤ A
  | 0 => ⟨100000000, Int.le_refl _, by decide, hx.1, hx.2⟩
  | i + 1 => by
    obtain ⟨A, hA, eA, h1, h2⟩ := walk_bd hs hs5 hb hF hC hx i
    refine ⟨A * 10, by omega, by rw [eA, Int.pow_succ]; omega, ?_⟩
    show -(A * 10) ≤ stepI b fs cs sz (walkI b fs cs sz i x).2 ∧ stepI b fs cs sz (walkI b fs cs sz i x).2 ≤ A * 10
    generalize (walkI b fs cs sz i x).2 = y at *
    obtain ⟨r0, r1⟩ := mk_range (b := b) hs y
    have hf := hF _ r0 r1
    have hc := hC _ r0 r1
    have hq := fdiv_bd hs hs5 hb ⟨h1, h2⟩
    unfold stepI
    generalize mkI sz b y = m at *
    have := mul_bd hf hq
    omega
theorem walk_62 (hs : 2 ≤ sz) (hs5 : sz ≤ 5) (hb : b = sz ∨ b = -sz) (hF : ∀ i : Int, 0 ≤ i → i < sz → -5 ≤ fs.getD i.toNat 0 ∧ fs.getD i.toNat 0 ≤ 5) (hC : ∀ i : Int, 0 ≤ i → i < sz → -3000 ≤ cs.getD i.toNat 0 ∧ cs.getD i.toNat 0 ≤ 3000)
    {x : Int} (hx : -100000000 ≤ x ∧ x ≤ 100000000) : ∀ i : Nat, i < 6 → -2 ^ 62 < (walkI b fs cs sz i x).2 ∧ (walkI b fs cs sz i x).2 < 2 ^ 62 := fun i hi => by
  obtain ⟨A, hA, eA, h1, h2⟩ := walk_bd hs hs5 hb hF hC hx i
  have h3 : A ≤ 10000000000000 := by
    rw [eA]
    have e : i = 0 ∨ i = 1 ∨ i = 2 ∨ i = 3 ∨ i = 4 ∨ i = 5 := by omega
    rcases e with rfl | rfl | rfl | rfl | rfl | rfl <;> decide
  have e2 : (2 : Int) ^ 62 = 4611686018427387904 := by decide
  omega
end
theorem snoc_getD {P : Nat → Int → Prop} {ts : List Int} {x : Int} {i : Nat} (hl : ts.length = i) (h : ∀ j, j < i → P j (ts.getD j 0)) (hx : P i x) : ∀ j, j < i + 1 → P j ((ts ++ [x]).getD j 0) := fun j hj => by
  rcases Nat.lt_succ_iff_lt_or_eq.mp hj with h1 | rfl
  · have e : (ts ++ [x]).getD j 0 = ts.getD j 0 := by
      rw [List.getD_eq_getElem?_getD, List.getD_eq_getElem?_getD, List.getElem?_append_left (by omega)]
    rw [e]; exact h j h1
  · have e : (ts ++ [x]).getD j 0 = x := by
      rw [List.getD_eq_getElem?_getD, List.getElem?_append_right (by omega), hl, Nat.sub_self]; rfl
    rw [e]; exact hx
theorem trm_step {sz f i e c : Int} (hs2 : 2 ≤ sz) (hs5 : sz ≤ 5) (hc : -1 ≤ c ∧ c ≤ 1) : sz ∣ ((-f * i * e).fmod sz + sz * c) + f * i * e ∧ -10 ≤ (-f * i * e).fmod sz + sz * c ∧ (-f * i * e).fmod sz + sz * c ≤ 10 := by
  have hq := Int.fmod_nonneg_of_pos (-f * i * e) (b := sz) (by omega)
  have hq2 := Int.fmod_lt_of_pos (-f * i * e) (b := sz) (by omega)
  have := mul_bd (x := sz) (y := c) (A := 5) (B := 1) (by omega) hc
  exact ⟨trm_ok _ _ _ _, by omega, by omega⟩
theorem mod3 (x : Int) : -1 ≤ x.fmod 3 - 1 ∧ x.fmod 3 - 1 ≤ 1 := by
  have hq := Int.fmod_nonneg_of_pos x (b := 3) (by omega)
  have hq2 := Int.fmod_lt_of_pos x (b := 3) (by omega)
  omega
theorem facs_bits {sz : Int} {fs : List Int} (hl : (fs.length : Int) = sz) (hF : ∀ i : Int, 0 ≤ i → i < sz → Fac sz (fs.getD i.toNat 0)) : ∀ i : Nat, PySem.Builtin.Int.intBits (fs.getD i 0) ≤ 64 := fun i => by
  by_cases h : i < fs.length
  · have := (hF (i : Int) (by omega) (by omega)).2
    rw [Int.toNat_natCast] at this
    exact PySem.intBits_le_64 (by omega) (by omega)
  · rw [List.getD_eq_getElem?_getD, List.getElem?_eq_none (by omega)]
    exact PySem.intBits_le_64 (by decide) (by decide)
theorem st_take {b : Int} {fs ts row : List Int} {i : Nat} (hlt : i < row.length) : stI b fs ts (row.take (i + 1)) = (fs.getD (row.getD i 0).toNat 0 * (stI b fs ts (row.take i)).1 + ts.getD (row.getD i 0).toNat 0 * (stI b fs ts (row.take i)).2, (stI b fs ts (row.take i)).2 * b) := by
  rw [List.take_add_one, List.getElem?_eq_getElem hlt, Option.toList_some, st_snoc, List.getD_eq_getElem?_getD (l := row), List.getElem?_eq_getElem hlt]
  rfl
theorem far_bd {sz p q : Int} (hs2 : 2 ≤ sz) (hs5 : sz ≤ 5) (hp : 0 ≤ p ∧ p < 4) (hq : 0 ≤ q ∧ q < 100000) : -13000000 ≤ sz ^ p.toNat * (1 + q) ∧ sz ^ p.toNat * (1 + q) ≤ 13000000 := by
  have h1 := pow_bd (b := sz) (by omega) (n := p.toNat) (by omega)
  have := mul_bd h1 (y := 1 + q) (B := 100000) (by omega)
  omega
section
variable {sz b D : Int} {fs row : List Int}
theorem b_bd (hs : 2 ≤ sz) (hs5 : sz ≤ 5) (hb : b = sz ∨ b = -sz) : -5 ≤ b ∧ b ≤ 5 := by omega
theorem b_ne (hs : 2 ≤ sz) (hb : b = sz ∨ b = -sz) : b ≠ 0 := by omega
theorem D_bd (hs : 2 ≤ sz) (hs5 : sz ≤ 5) (hb : b = sz ∨ b = -sz) (hF : ∀ i : Int, 0 ≤ i → i < sz → Fac sz (fs.getD i.toNat 0)) (hm : Mks sz row) (hr : row.length ≤ 3) (hD : D = b ^ row.length - prI fs row) : -250 ≤ D ∧ D ≤ 250 := by
  have h1 := pow_bd (b_bd hs hs5 hb) hr
  have h2 := pr_bd hF hm hr
  omega
theorem z_bd (hs : 2 ≤ sz) (hs5 : sz ≤ 5) : -5 ≤ sz ∧ sz ≤ 5 := by omega
theorem nums_bd {st q : Int} (h1 : -1000 ≤ st ∧ st ≤ 1000) (h2 : 2 ≤ sz) (h5 : sz ≤ 500) (hq : -125 ≤ q ∧ q ≤ 125) : ∀ y ∈ [st, st + 1, st + sz, st - q], -20000000 ≤ y ∧ y ≤ 20000000 := by
  have a1 : -20000000 ≤ st ∧ st ≤ 20000000 := by omega
  have a2 : -20000000 ≤ st + 1 ∧ st + 1 ≤ 20000000 := by omega
  have a3 : -20000000 ≤ st + sz ∧ st + sz ≤ 20000000 := by omega
  have a4 : -20000000 ≤ st - q ∧ st - q ≤ 20000000 := by omega
  intro y hy
  simp only [List.mem_cons, List.not_mem_nil, or_false] at hy
  rcases hy with rfl | rfl | rfl | rfl
  · exact a1
  · exact a2
  · exact a3
  · exact a4
theorem far_y {st f x : Int} (h1 : -1000 ≤ st ∧ st ≤ 1000) (h2 : -13000000 ≤ f ∧ f ≤ 13000000) : -20000000 ≤ (if x < 0 then st - f else st + f) ∧ (if x < 0 then st - f else st + f) ≤ 20000000 := by
  split <;> omega
theorem one_mem (h : 2 ≤ sz) : Mks sz [1, 1, 0] := fun z hz => by
  simp only [List.mem_cons, List.not_mem_nil, or_false] at hz
  omega
theorem small_100 {x : Int} (h : -20000000 ≤ x ∧ x ≤ 20000000) : -100000000 ≤ x ∧ x ≤ 100000000 := by omega
theorem small_101 {x : Int} (h : -1000 ≤ x ∧ x ≤ 1000) : -100000000 ≤ x ∧ x ≤ 100000000 := by omega
end
end
section
open PySem PySem.W PyProof.Rows PySem.Calls
set_option maxRecDepth 100000
set_option maxHeartbeats 8000000
abbrev tupLI (l : Addr) (x : Int) (t : Tok) : Obj := { cls := .type "tuple", data := .seq #[.ref l, .int x t] }
section
variable {prog : Program} {w : World} {A : Around} {E : Value → Shared → Prop} {s : Shared} {h₀ : Heap} {L : Addr} {news : List (Addr × Obj)}
theorem neTup {a c l k : Addr} {x y : Int} {t u : Tok} {vs ws : List Value} {ns ms : List Int} {ep ep' : Nat} {Q : Value → Shared → Prop} (N : News h₀ L s.heap news) (ha : (a, tupLI l x t) ∈ news) (hc : (c, tupLI k y u) ∈ news)
    (hl : (l, W.listOf vs.toArray ep) ∈ news) (hk : (k, W.listOf ws.toArray ep') ∈ news) (hi : IntsAre vs ns) (hj : IntsAre ws ms) (hu : A.units + 64 < cLine) (e1 : ns = ms) (e2 : x = y) (h : Q (.bool false) s) :
    wpAny (model prog w) A (compareOp .NotEq (.ref a) (.ref c)) Q E s := by
  subst e1 e2
  have sh : SeqAt.shaped (.tuple [.list (ns.map PyData.int), .int x]) = true := by
    simp [SeqAt.shaped, PyData.canLay0, PyData.canLayAll0, PyData.depth, PyData.depthAll, ke_canLayAll0, ke_depthAll]
  refine ne_dataH (da := .tuple [.list (ns.map PyData.int), .int x]) (db := .tuple [.list (ns.map PyData.int), .int x]) (reads_tuple_at (N _ ha).1 rfl rfl (.cons (reads_newData (News.isList N hl) (ke_carried hi)) (.cons (.int _ _) .nil)))
    (reads_tuple_at (N _ hc).1 rfl rfl (.cons (reads_newData (News.isList N hk) (ke_carried hj)) (.cons (.int _ _) .nil))) sh sh hu ?_
  have e : (!PyData.eqv (.tuple [.list (ns.map PyData.int), .int x]) (.tuple [.list (ns.map PyData.int), .int x])) = false := by
    simp [PyData.eqv, PyData.eqvAll, ked_eqvAll]
  rw [e]
  exact h
end
theorem M6_add (m : Str → Option Value) (a : Str) : ∀ l : List (Str × Option Value), M6 m l = M6 m (l ++ [(a, m a)])
  | [] => by
    funext z
    show m z = if z = a then m a else m z
    by_cases h : z = a
    · rw [if_pos h, h]
    · rw [if_neg h]
  | p :: r => by
    funext z
    show (if z = p.1 then p.2 else M6 m r z) = if z = p.1 then p.2 else M6 m (r ++ [(a, m a)]) z
    rw [← M6_add m a r]
theorem M6_adds (m : Str → Option Value) : ∀ (names : List Str) (l : List (Str × Option Value)), M6 m l = M6 m (l ++ names.map fun a => (a, m a))
  | [], l => by rw [List.map_nil, List.append_nil]
  | a :: r, l => by
    rw [M6_add m a l, M6_adds m r (l ++ [(a, m a)]), List.append_assoc]
    rfl
theorem offRows {I C D : Addr} {oI oC oD : Obj} {fx pre : List (Addr × Obj)} {cs0 : List CO} {c : CO} {tl tl' : List (Addr × Obj)} (off : ∀ p ∈ fx ++ (cs0.map coObj ++ tl), p.1 ≠ I ∧ p.1 ≠ C ∧ p.1 ≠ D)
    (hI : (I, oI) ∈ pre) (hC : (C, oC) ∈ pre) (hD : (D, oD) ∈ pre) (G : Grow pre tl tl') (l : ∀ p ∈ pre, p.1 < c.1) : ∀ p ∈ fx ++ ((cs0 ++ [c]).map coObj ++ tl'), p.1 ≠ I ∧ p.1 ≠ C ∧ p.1 ≠ D := by
  intro p hp
  simp only [List.map_append, List.map_cons, List.map_nil, List.mem_cons, List.mem_append, List.not_mem_nil, or_false] at hp
  rcases hp with h | (h | h) | h
  · exact off p (List.mem_append_left _ h)
  · exact off p (List.mem_append_right _ (List.mem_append_left _ h))
  · subst h
    exact ⟨Nat.ne_of_gt (l _ hI), Nat.ne_of_gt (l _ hC), Nat.ne_of_gt (l _ hD)⟩
  · rcases G p h with ⟨q, hq, e⟩ | g
    · rw [← e]; exact off q (List.mem_append_right _ (List.mem_append_right _ hq))
    · exact ⟨Nat.ne_of_gt (g _ hI), Nat.ne_of_gt (g _ hC), Nat.ne_of_gt (g _ hD)⟩
theorem rows_sub {c : CO} {fx : List (Addr × Obj)} {ros : List CO} {t all : List (Addr × Obj)} (hx : coObj c ∈ all) (h : ∀ p ∈ fx ++ (ros.map coObj ++ t), p ∈ all) : ∀ p ∈ fx ++ ((ros ++ [c]).map coObj ++ t), p ∈ all := fun p hp => by
  simp only [List.map_append, List.map_cons, List.map_nil, List.mem_cons, List.mem_append, List.not_mem_nil, or_false] at hp
  rcases hp with hp | (hp | hp) | hp
  · exact h p (List.mem_append_left _ hp)
  · exact h p (List.mem_append_right _ (List.mem_append_left _ hp))
  · rw [hp]; exact hx
  · exact h p (List.mem_append_right _ (List.mem_append_right _ hp))
theorem M6_congr {f g : Str → Option Value} {z : Str} (h : f z = g z) : ∀ l : List (Str × Option Value), M6 f l z = M6 g l z
  | [] => h
  | p :: r => by
    show (if z = p.1 then p.2 else M6 f r z) = if z = p.1 then p.2 else M6 g r z
    rw [M6_congr h r]
theorem M6_same (m : Str → Option Value) : ∀ {b b' : List (Str × Option Value)}, b.map (·.1) = b'.map (·.1) → ∀ z, M6 (M6 m b) b' z = M6 m b' z
  | [], [], _, z => rfl
  | (n, v) :: r, (n', v') :: r', h, z => by
    simp only [List.map_cons, List.cons.injEq] at h
    obtain ⟨rfl, h⟩ := h
    show (if z = n then v' else M6 (M6 m ((n, v) :: r)) r' z) = if z = n then v' else M6 m r' z
    by_cases hz : z = n
    · rw [if_pos hz, if_pos hz]
    · rw [if_neg hz, if_neg hz, ← M6_same m h z]
      refine M6_congr ?_ r'
      show (if z = n then v else M6 m r z) = _
      rw [if_neg hz]
  | [], _ :: _, h, _ => by simp at h
  | _ :: _, [], h, _ => by simp at h
theorem M6_over {m : Str → Option Value} {b b' : List (Str × Option Value)} (h : b.map (·.1) = b'.map (·.1)) : ∀ {a : List (Str × Option Value)}, (a.all fun p => b'.all fun q => !decide (p.1 = q.1)) = true → M6 (M6 m (a ++ b)) b' = M6 m (a ++ b')
  | [], _ => funext (M6_same m h)
  | p :: a, hd => by
    rw [List.all_cons, Bool.and_eq_true] at hd
    have ih := M6_over (m := m) h hd.2
    funext z
    show _ = if z = p.1 then p.2 else M6 m (a ++ b') z
    by_cases hz : z = p.1
    · rw [if_pos hz, M6.off (v := p.2) (l := b') ?_ (by rw [hz]; exact hd.1)]
      show (if z = p.1 then p.2 else M6 m (a ++ b) z) = p.2
      rw [if_pos hz]
    · rw [if_neg hz, ← ih]
      refine M6_congr ?_ b'
      show (if z = p.1 then p.2 else M6 m (a ++ b) z) = _
      rw [if_neg hz]
theorem capGet {h : Heap} {a : Addr} {o : Obj} (H : h.get? a = some o) : ∃ a' o', a' = a ∧ o' = o ∧ h.get? a' = some o' := ⟨a, o, rfl, rfl, H⟩
theorem capCode {h : Heap} {v : Value} {n : Str} (H : h.CodeRec v n) : ∃ v', v' = v ∧ h.CodeRec v' n := ⟨v, rfl, H⟩
end
section
theorem walk_mk {sz b : Int} {fs cs : List Int} (hs : 2 ≤ sz) (hs5 : sz ≤ 5) (x : Int) : ∀ n, Mk (walkI b fs cs sz n x).1
  | 0 => fun y hy => nomatch hy
  | n + 1 => fun y hy => by
    rcases List.mem_append.mp (show y ∈ (walkI b fs cs sz n x).1 ++ [mkI sz b (walkI b fs cs sz n x).2] from hy) with hy | hy
    · exact walk_mk hs hs5 x n y hy
    · rw [List.mem_singleton.mp hy]
      have := mk_range (b := b) hs (walkI b fs cs sz n x).2
      omega
theorem due_yes {c w : List Int} {d x : Int} (h : (c <+: w) ↔ d ∣ x) (e : x.fmod d = 0) : (1 : Int) = b01 (decide (c <+: w)) := by
  rw [decide_eq_true (h.mpr (Int.dvd_of_fmod_eq_zero e))]; rfl
theorem due_no {c w : List Int} {d x : Int} (h : (c <+: w) ↔ d ∣ x) (e : ¬ x.fmod d = 0) : (0 : Int) = b01 (decide (c <+: w)) := by
  rw [decide_eq_false fun q => e (Int.fmod_eq_zero_of_dvd (h.mp q))]; rfl
end
section
open PySem PySem.W PyProof.Rows
set_option maxRecDepth 100000
set_option maxHeartbeats 8000000
theorem fillU3 : PySem.Challenge.rw_pg0172_01 = PySem.Challenge.rw_pg0172_01 ∧ Mine.hd.heap_1 = Mine.hd.heap_1 := by
  w_top off
  k_fill
  exact ⟨rfl, rfl⟩

section
variable {prog : Program} {w : World} {A : Around} {E : Value → Shared → Prop} {s : Shared}
theorem absV {a v : Int} {t : Tok} {Q : Value → Shared → Prop} (e : (if a < 0 then -a else a) = v) (h : ∀ u tk, Q (.int v u) { s with toks := tk }) : wpAny (model prog w) A (call (.builtin "abs") [.int a t]) Q E s := by
  subst e
  exact call_abs_int h
end
section
variable {w : World} {p : Program} {loose : List Str} {mean : ExcName → Option Value} {mg mb : Str → Option Value}
  {dp un : Nat} {gd : Option (List Code)} {cn : Str} {cs : Scope} {a : Addr} {ccd : Value} {cl : List (Str × Addr)} {outer : List Env} {A₀ : Around} {base h₀ : Heap} {L : Addr} {m : Str → Option Value} {s : Shared} {Q E : Value → Shared → Prop} {news : List (Addr × Obj)}

local macro_rules | `(tactic| walk_at "binaryOp Mult int int") => `(tactic| (refine mul_int ?_ ?hm; (case hm => first | assumption | mul_fits)))
local macro_rules | `(tactic| walk_at "call builtin:abs") => `(tactic| (k_here; k_dflt (refine' absV ?e ?_; (case e => assumption)); intro _ _))
local macro_rules | `(tactic| walk_at "subscriptTail Name Name ref int") => `(tactic| (k_here; k_dflt (refine' itemV ?N ?m ?k ?x ?z ?_; (case N => k_asm); (case m => k_mem); (case x => assumption); (case k => first | omega | (simp; done)); (case z => omega))))
local macro_rules | `(tactic| walk_at "mine look") => `(tactic| (dsimp only; (repeat (first | (with_reducible exact if_pos rfl) | (refine (if_pos rfl).trans ?_; first | (with_reducible exact rfl) | (refine valEq ?_; first | omega | rfl)) | (refine (if_neg (by decide +kernel)).trans ?_))); (try exact rfl)))
local macro_rules | `(tactic| walk_at "mine hon") => `(tactic| first | exact List.forall_mem_nil _ | (refine' List.forall_mem_cons.mpr ⟨?hn1, ?hn2⟩; (case hn1 => walk_at "mine look"); (case hn2 => walk_at "mine hon")))
local macro_rules | `(tactic| walk_at "mine hoff") => `(tactic| (intro z hz; first | (with_reducible rfl) | (dsimp only; with_reducible rfl) | (simp only [List.forall_mem_cons, List.not_mem_nil, false_imp_iff, implies_true, and_true, ne_eq] at hz; simp only [hz, if_false])))
local macro_rules | `(tactic| walk_at "mine mapL") => `(tactic| (refine' mapL_eq _ ?m1 ?m2; (case m1 => walk_at "mine hoff"); (case m2 => walk_at "mine hon")))
local macro_rules | `(tactic| walk_at "pyIter ref") => `(tactic| refine Stop.to ?_)
local macro_rules | `(tactic| walk_at "call ref") => `(tactic| (k_here; (with_reducible show wpAny _ _ (call (Value.ref 63) _) _ _ _); refine Stop.to ?_))
theorem c_walk {pre tl : List (Addr × Obj)} {lf lc epf epc : Nat} {vf vc : List Value} {fs cs' : List Int} (B : Below A₀ base outer h₀) (F : Fr h₀ L s.heap m) (X : (Mine.hd.heap_1 w.params).In h₀) (N : News h₀ L s.heap ((lf, W.listOf vf.toArray epf) :: (lc, W.listOf vc.toArray epc) :: (pre ++ tl))) (T : Top p loose mean mg mb h₀) (hk : cs.kind = .function)
    (C1 : CodeHd base 41 37) (C2 : CodeHd base 48 44) (TS : TabS tl) (hpre : PreOk pre)
    (hd : dp + 250 < recursionLimit) (hu : un + 1200 < cLine) (hf : IntsAre vf fs) (hc : IntsAre vc cs') (x b size : Int) (n : Nat) (tx tb tn : Tok) (hs2 : 2 ≤ size) (hs5 : size ≤ 5) (hb : b = size ∨ b = -size) (hfl : (fs.length : Int) = size) (hcl : (cs'.length : Int) = size) (hn : n ≤ 100000) (hfb : ∀ i, Builtin.Int.intBits (fs.getD i 0) ≤ 64)
    (hx : ∀ i, i < n → -2 ^ 62 < (walkI b fs cs' size i x).2 ∧ (walkI b fs cs' size i x).2 < 2 ^ 62)
    (ret : ∀ (h' : Heap) (tk' t ep : Nat) (r S : Addr) (vs : List Value) (tl' : List (Addr × Obj)), Fr h₀ L h' m → TabS tl' → News h₀ L h' ((r, { cls := .type "tuple", data := .seq #[.ref S, .int (walkI b fs cs' size n x).2 t] }) :: (S, W.listOf vs.toArray ep) :: (lf, W.listOf vf.toArray epf) :: (lc, W.listOf vc.toArray epc) :: (pre ++ tl')) →
      Grow ((lf, W.listOf vf.toArray epf) :: (lc, W.listOf vc.toArray epc) :: pre) tl tl' → (∀ p ∈ (S, W.listOf vs.toArray ep) :: (lf, W.listOf vf.toArray epf) :: (lc, W.listOf vc.toArray epc) :: (pre ++ tl'), p.1 < r) → (∀ p ∈ (lf, W.listOf vf.toArray epf) :: (lc, W.listOf vc.toArray epc) :: pre, p.1 < S) → IntsAre vs (walkI b fs cs' size n x).1 → Q (.ref r) { s with heap := h', toks := tk' }) :
    wpAny (model PySem.Challenge.rw_pg0172_01.row.prog w) (ktrTop dp un gd cn cs L a ccd cl outer) (call (.ref 144) [.int x tx, .int b tb, .ref lf, .ref lc, .int (n : Int) tn]) Q E s := by
  refine wpAny_call ?_
  k_dflt cell_enter
  rename_i g1 L1 h1 FG1 F1 N1 B1 X1 T1
  k_steps
  unfold Stop
  rename IsRange _ _ _ _ _ _ _ _ => hrg
  rename News _ _ _ _ => N2
  rename Fr _ _ _ (fun _ => _) => F2
  rename (∀ p : Addr × Obj, p ∈ _ → p.1 < _) => lS
  obtain ⟨S, o2, rS, rfl, eo2, erS, N2⟩ := cap1 N2
  subst erS
  subst eo2
  obtain ⟨m2, em2⟩ := capM2 F2
  refine' iterRng (n := n) (J := fun i m' n' => Stop (∃ (svs : List Value) (ep t : Nat) (tl1 : List (Addr × Obj)) (u1 u2 u3 u4 : Option Value), m' = M6 m2 [(Str.ofString "x", some (.int (walkI b fs cs' size i x).2 t)), (Str.ofString "step", u1), (Str.ofString "quotient", u2), (Str.ofString "rest", u3), (Str.ofString "mark", u4)] ∧
      n' = (S, W.listOf svs.toArray ep) :: (lf, W.listOf vf.toArray epf) :: (lc, W.listOf vc.toArray epc) :: (pre ++ tl1) ∧ TabS tl1 ∧ Grow ((lf, W.listOf vf.toArray epf) :: (lc, W.listOf vc.toArray epc) :: pre) tl tl1 ∧ IntsAre svs (walkI b fs cs' size i x).1)) rfl F2 N2 hrg (rng_small (by omega)) (rng_size _) ?h0 ?turn ?done
  case h0 =>
    subst em2
    refine' ⟨[], 0, tx, tl, _, _, _, _, ?ha, rfl, TS, Grow.refl _ _, .nil⟩
    case ha => walk_at "mine mapL"
  case turn =>
    rintro I i t m₁ news₁ it h tk3 hi ⟨svs, ep, tx1, tl1, u1, u2, u3, u4, rfl, rfl, TS1, G1, hsv⟩ hne F₁ N₁
    subst em2
    simp only [M6] at F₁
    replace F₁ : Fr g1 L1 h _ := F₁
    replace N₁ : News g1 L1 h _ := N₁
    obtain ⟨hx1, hx2⟩ := hx i hi
    obtain ⟨⟨p37, h37⟩, ⟨p44, h44⟩⟩ := TS1.mems
    have hI37 : @Ne Nat I 37 ∧ @Ne Nat I 44 := ⟨Ne.symm (hne _ (.tail _ (.tail _ (.tail _ (List.mem_append_right _ h37))))), Ne.symm (hne _ (.tail _ (.tail _ (.tail _ (List.mem_append_right _ h44)))))⟩
    have hW : walkI b fs cs' size (i + 1) x = ((walkI b fs cs' size i x).1 ++ [mkI size b (walkI b fs cs' size i x).2], stepI b fs cs' size (walkI b fs cs' size i x).2) := rfl
    have hsl := hsv.length
    have hwl := walkI_len b fs cs' size x i
    rw [hwl] at hsl
    clear hwl
    generalize (walkI b fs cs' size i x).1 = sl at *
    generalize (walkI b fs cs' size i x).2 = xi at *
    have hb0 : b ≠ 0 := by omega
    have hm0 := Int.fmod_nonneg_of_pos (xi.fmod b) (b := size) (by omega)
    have hm1 := Int.fmod_lt_of_pos (xi.fmod b) (b := size) (by omega)
    have eab : (if b < 0 then -b else b) = size := by split <;> omega
    have hne2 := neAll_of hne
    simp only [NeAll] at hne2
    have hlS : @LT.lt Nat _ lf S := lS (lf, W.listOf vf.toArray epf) (.head _)
    have hlc : @LT.lt Nat _ lc S := lS (lc, W.listOf vc.toArray epc) (.tail _ (.head _))
    have hlS2 : ∀ p ∈ pre, p.1 < S := fun p hp => lS p (.tail _ (.tail _ (List.mem_append_left _ hp)))
    have hlS3 : ∀ p ∈ pre, p.1 ≠ S := fun p hp => Nat.ne_of_lt (hlS2 p hp)
    have hsz1 : svs.length ≤ 100000 := by omega
    have hmo : IntMulOk (fs.getD ((xi.fmod b).fmod size).toNat 0) (xi.fdiv b) := IntMulOk.of_left (hfb _)
    obtain ⟨tf, hvf⟩ := hf.get ((xi.fmod b).fmod size).toNat _ (ints_getD (k := (xi.fmod b).fmod size) hm0 (by omega))
    obtain ⟨tc, hvc⟩ := hc.get ((xi.fmod b).fmod size).toNat _ (ints_getD (k := (xi.fmod b).fmod size) hm0 (by omega))
    k_steps
    unfold Stop
    k_dflt (refine' c_int_divmod (pre := (I, it) :: (S, W.listOf svs.toArray ep) :: (lf, W.listOf vf.toArray epf) :: (lc, W.listOf vc.toArray epc) :: pre) ?qB ?qF ?qX ?qN ?qT ?qhk ?qC1 ?qC2 ?qTS ?qpo ?qhd ?qhu _ _ _ _ hx1 hx2 hb0 ?qy1 ?qy2 ?_)
    case qN => k_asm
    case qB => k_asm
    case qF => k_asm
    case qX => k_asm
    case qT => k_asm
    case qhk => rfl
    case qC1 => assumption
    case qC2 => assumption
    case qTS => assumption
    case qpo => walk_at "mine preok"
    case qhd => ktr_room
    case qhu => ktr_units
    case qy1 => omega
    case qy2 => omega
    intro h' tk' t1 t2 r tl2 F' TS' G' N' l1
    have hlr : @LT.lt Nat _ S r := l1 (S, W.listOf svs.toArray ep) (.tail _ (.head _))
    have hfr : @LT.lt Nat _ lf r := l1 (lf, W.listOf vf.toArray epf) (.tail _ (.tail _ (.head _)))
    have hcr : @LT.lt Nat _ lc r := l1 (lc, W.listOf vc.toArray epc) (.tail _ (.tail _ (.tail _ (.head _))))
    k_steps
    refine' TurnEnd.intro ?tF ?tN ?tn ?tJ
    case tF => assumption
    case tN => exact News.drop (by assumption)
    case tJ =>
      refine' ⟨_, _, _, tl2, _, _, _, _, ?ja, rfl, TS', Grow.trans G1 (Grow.sub G' (fun p hp => .tail _ (.tail _ hp))), ?ji⟩
      case ji =>
        rw [hW]
        exact IntsAre.append hsv (.cons _ _ .nil)
      case ja =>
        rw [hW]
        walk_at "mine mapL"
    case tn =>
      intro p hp
      rcases List.mem_cons.mp hp with rfl | hp
      · exact hne (S, W.listOf svs.toArray ep) (.head _)
      · rcases List.mem_cons.mp hp with rfl | hp
        · exact hne _ (.tail _ (.head _))
        · rcases List.mem_cons.mp hp with rfl | hp
          · exact hne _ (.tail _ (.tail _ (.head _)))
          · rcases List.mem_append.mp hp with hp | hp
            · exact hne p (.tail _ (.tail _ (.tail _ (List.mem_append_left _ hp))))
            · rcases G' p hp with ⟨q, hq, e⟩ | g
              · rw [← e]
                exact hne q (.tail _ (.tail _ (.tail _ (List.mem_append_right _ hq))))
              · exact Nat.ne_of_gt (g (I, it) (.head _))
  case done =>
    rintro h' tk' m' news' F' N' ⟨svs, ep, tx1, tl1, u1, u2, u3, u4, rfl, rfl, TS1, G1, hsv⟩
    subst em2
    simp only [M6] at F'
    k_steps
    refine' ret _ _ _ _ _ S svs tl1 ?r1 TS1 ?r2 G1 ?r3 ?r4 hsv
    case r1 => assumption
    case r2 => assumption
    case r3 => assumption
    case r4 =>
      intro p hp
      rcases List.mem_cons.mp hp with rfl | hp
      · exact lS _ (.head _)
      · rcases List.mem_cons.mp hp with rfl | hp
        · exact lS _ (.tail _ (.head _))
        · exact lS p (.tail _ (.tail _ (List.mem_append_left _ hp)))
end
end
section
open PySem PySem.W PyProof.Rows
set_option maxRecDepth 100000
set_option maxHeartbeats 8000000
theorem fillU5 : PySem.Challenge.rw_pg0172_01 = PySem.Challenge.rw_pg0172_01 ∧ Mine.hd.heap_1 = Mine.hd.heap_1 := by
  w_top off
  k_fill
  exact ⟨rfl, rfl⟩

def RdHas (prog : Program) (w : World) (code l : List Int) (io : Obj) : Prop := ∃ kvs t, io.IsDictOf (PySem.strKind prog w) kvs ∧ valueAt kvs (modOf l) = some (.int (b01 (decide (code <+: l))) t) ∧ kvs.length ≤ 100000
theorem valueAt_stored {kvs : List (Str × Value)} {k : Str} {v : Value} (h : valueAt kvs k = none) : valueAt (stored kvs k v) k = some v := by
  rw [stored_absent h]
  unfold valueAt at *
  rw [List.find?_append]
  cases e : kvs.find? (fun kv => kv.1 = k) with
  | some kv => rw [e] at h; cases h
  | none => simp
section
variable {w : World} {p : Program} {loose : List Str} {mean : ExcName → Option Value} {mg mb : Str → Option Value}
  {dp un : Nat} {gd : Option (List Code)} {cn : Str} {cs : Scope} {a : Addr} {ccd : Value} {cl : List (Str × Addr)} {outer : List Env} {A₀ : Around} {base h₀ : Heap} {L : Addr} {m : Str → Option Value} {s : Shared} {Q E : Value → Shared → Prop} {news : List (Addr × Obj)}

theorem b01_le {kvs : List (Str × Value)} {k : Str} {v : Value} (h : valueAt kvs k = none) : (stored kvs k v).length = kvs.length + 1 := by
  rw [stored_absent h]; simp
theorem c_names1 {r : Rd} {code l : List Int} {n : Int} {K : Nat} {tf tn : Tok} (B : Below A₀ base outer h₀) (F : Fr h₀ L s.heap m) (X : (Mine.hd.heap_1 w.params).In h₀)
    (N : News h₀ L s.heap (r.objs w.params ++ news)) (T : Top p loose mean mg mb h₀) (hk : cs.kind = .function)
    (hok : RdOk PySem.Challenge.rw_pg0172_01.row.prog w K code n r) (hK : K ≤ 1000) (own : r.Own) (hap : ∀ p ∈ news, @Ne Nat p.1 r.ig)
    (hc : code ≠ []) (hcb : Mk code) (hcl : code.length ≤ 40) (hlb : Mk l) (hll : l.length ≤ 40)
    (hd : dp + 20 < recursionLimit) (hu : un + 100 < cLine)
    (ret : ∀ (h' : Heap) (tk' t' : Nat) (io' : Obj), Fr h₀ L h' m → News h₀ L h' (({ r with io := io' } : Rd).objs w.params ++ news) → RdOk PySem.Challenge.rw_pg0172_01.row.prog w (K + 1) code n { r with io := io' } → RdHas PySem.Challenge.rw_pg0172_01.row.prog w code l io' → Q (.int (b01 (decide (code <+: l))) t') { s with heap := h', toks := tk' }) :
    wpAny (model PySem.Challenge.rw_pg0172_01.row.prog w) (ktrTop dp un gd cn cs L a ccd cl outer) (call (.ref 118) [.ref r.x, .str (fileOf l) tf, .str (modOf l) tn]) Q E s := by
  obtain ⟨x, dx, S, l₂, ig, n₂, t1, t2, t3, io, so, lo⟩ := r
  obtain ⟨⟨kvs, hD, hkv, hkl⟩, hsys, hkind⟩ := hok
  obtain ⟨o1, o2, o3, o4⟩ := own
  dsimp only at *
  have e1 := join_len hcb lenDot
  have e2 := join_len hlb lenDot
  have e3 := join_len hcb lenSl
  have e4 := join_len hlb lenSl
  have z1 : (modOf code).length ≤ 100000 := by unfold modOf; omega
  have z2 : (modOf l).length ≤ 100000 := by unfold modOf; omega
  have z3 : (dirOf code).length ≤ 100000 := by unfold dirOf; rw [Str.length_append, lenSl]; omega
  have z4 : (fileOf l).length ≤ 100000 := by unfold fileOf; rw [Str.length_append, Str.length_append, lenSl, lenMp]; omega
  have hsep : ∀ (so lo : Obj), ∀ p ∈ rdObjs w.params t1 t2 t3 x dx S l₂ ig n₂ so lo news, @Ne Nat p.1 ig := by
    intro so lo p hp
    simp only [List.mem_cons] at hp
    rcases hp with rfl | rfl | rfl | rfl | hp
    · exact o2
    · exact o1
    · exact o3
    · exact o4
    · exact hap p hp
  cases hv : valueAt kvs (modOf l) with
  | some v =>
    obtain ⟨t, rfl⟩ := hkv l hlb v hv
    refine c_namesHit B F X N T hk (hsep so lo) hsys hD (by omega) hv hd hu fun h' tk' F' N' => ?_
    exact ret h' tk' t io F' N' ⟨⟨kvs, hD, hkv, by omega⟩, hsys, hkind⟩ ⟨kvs, t, hD, hv, by omega⟩
  | none =>
    rcases hkind with ⟨hn, tm, rfl, rfl⟩ | ⟨hn, led, td, epd, rfl, rfl⟩
    · refine c_namesM B F X N T hk (hsep _ _) hsys hD (by omega) hv hd hu z1 z2 z4 fun h' tk' t t' io' F' N' hD' => ?_
      rw [show verdM (modOf code) (modOf l) = decide (code <+: l) from verdM_marks hc hcb hlb] at hD' ⊢
      exact ret h' tk' t' io' F' N' ⟨⟨_, hD', hkv.store hlb hv, by rw [b01_le hv]; omega⟩, hsys, .inl ⟨hn, tm, rfl, rfl⟩⟩ ⟨_, _, hD', valueAt_stored hv, by rw [b01_le hv]; omega⟩
    · refine c_namesF B F X N T hk (hsep _ _) hsys hD (by omega) hv hd hu z3 z2 z4 fun h' tk' t t' io' F' N' hD' => ?_
      rw [show verdF (dirOf code) (fileOf l) = decide (code <+: l) from verdF_marks hc hcb hlb] at hD' ⊢
      exact ret h' tk' t' io' F' N' ⟨⟨_, hD', hkv.store hlb hv, by rw [b01_le hv]; omega⟩, hsys, .inr ⟨hn, led, td, epd, rfl, rfl⟩⟩ ⟨_, _, hD', valueAt_stored hv, by rw [b01_le hv]; omega⟩
theorem c_names2 {r : Rd} {code l : List Int} {tn : Tok} (B : Below A₀ base outer h₀) (F : Fr h₀ L s.heap m) (X : (Mine.hd.heap_1 w.params).In h₀)
    (N : News h₀ L s.heap (r.objs w.params ++ news)) (T : Top p loose mean mg mb h₀) (hk : cs.kind = .function)
    (hsys : (r.ig == sysModules) = false) (hh : RdHas PySem.Challenge.rw_pg0172_01.row.prog w code l r.io) (own : r.Own) (hap : ∀ p ∈ news, @Ne Nat p.1 r.ig)
    (hd : dp + 20 < recursionLimit) (hu : un + 100 < cLine)
    (ret : ∀ (h' : Heap) (tk' t' : Nat), Fr h₀ L h' m → News h₀ L h' (r.objs w.params ++ news) → Q (.int (b01 (decide (code <+: l))) t') { s with heap := h', toks := tk' }) :
    wpAny (model PySem.Challenge.rw_pg0172_01.row.prog w) (ktrTop dp un gd cn cs L a ccd cl outer) (call (.ref 118) [.ref r.x, .none, .str (modOf l) tn]) Q E s := by
  obtain ⟨x, dx, S, l₂, ig, n₂, t1, t2, t3, io, so, lo⟩ := r
  obtain ⟨kvs, t, hD, hv, hl⟩ := hh
  obtain ⟨o1, o2, o3, o4⟩ := own
  dsimp only at *
  have hsep : ∀ p ∈ rdObjs w.params t1 t2 t3 x dx S l₂ ig n₂ so lo news, @Ne Nat p.1 ig := by
    intro p hp
    simp only [List.mem_cons] at hp
    rcases hp with rfl | rfl | rfl | rfl | hp
    · exact o2
    · exact o1
    · exact o3
    · exact o4
    · exact hap p hp
  refine c_namesHit B F X N T hk hsep hsys hD (by omega) hv hd hu fun h' tk' F' N' => ?_
  exact ret h' tk' t F' N'
end
end
section
set_option maxHeartbeats 400000000
theorem fillLaw : PySem.Challenge.rw_pg0172_01 = PySem.Challenge.rw_pg0172_01 ∧ Mine.hd.heap_1 = Mine.hd.heap_1 := by
  w_top off
  k_fill
  exact ⟨rfl, rfl⟩
local macro_rules | `(tactic| walk_at "pyIter ref") => `(tactic| refine Stop.to ?_)
local macro_rules | `(tactic| walk_at "CompSrc") => `(tactic| refine Stop.to ?_)
local macro_rules | `(tactic| walk_at "exec Assign cons ListComp") => `(tactic| ((fail_if_success (rename StopIf => hStopIf)); refine Stop.to ?_))
local macro_rules | `(tactic| walk_at "CompEnd") => `(tactic| refine Stop.to ?_)
local macro_rules | `(tactic| walk_at "call ref") => `(tactic| refine Stop.to ?_)
local macro_rules | `(tactic| walk_at "call ref") => `(tactic| (k_here; (with_reducible show wpAny _ _ (call (Value.ref 132) _) _ _ _); k_dflt (refine' c_cell _ _ _ _ _ _ _ _ _ _ _ _ _ _ _ ?_; walk_at "cc"); intros))
local macro_rules | `(tactic| walk_at "binaryOp Pow int int") => `(tactic| (refine pow_int_small ?kb1 ?kb2 ?kb3 ?_; (case kb1 => omega); (case kb2 => omega); (case kb3 => omega)))
local macro_rules | `(tactic| walk_at "subscriptTail Name Slice ref ref") => `(tactic| refine Stop.to ?_)
local macro_rules | `(tactic| walk_at "eval ListComp") => `(tactic| refine Stop.to ?_)
local macro_rules | `(tactic| walk_at "exec Assign cons Call") => `(tactic| (rename StopTold => hStopTold; refine Stop.to ?_))
local macro_rules | `(tactic| walk_at "call builtin:list.append") => `(tactic| (k_here; (with_reducible show wpAny _ _ (call (Value.builtin _) [Value.ref _, Value.ref _]) _ _ _); refine Stop.to ?_))
local macro_rules | `(tactic| walk_at "CompEnd") => `(tactic| k_dflt (refine' compEndAll ?cF ?cN ?cO ?cH ?_; (case cF => k_asm); (case cN => assumption); (case cO => first | assumption | (simp only [LCg.Off3, and_true]; assumption)); (case cH => lcg_src)))
local macro_rules | `(tactic| walk_at "mine item") => `(tactic| (k_here; k_dflt (refine' itemV ?N ?m ?k ?x ?z ?_; (case N => k_asm); (case m => k_mem); (case x => assumption); (case k => first | omega | (simp; done)); (case z => omega))))
local macro_rules | `(tactic| walk_at "subscriptTail Name Name ref int") => `(tactic| walk_at "mine item")
local macro_rules | `(tactic| walk_at "call builtin:str.join") => `(tactic| (k_here; k_dflt (refine' joinV _ _ _ _ _ ?_; walk_at "cc"); intros))
local macro_rules | `(tactic| walk_at "binaryOp Add str str") => `(tactic| (refine add_str (fun _ _ => ?_) ?asz; (case asz => (rw [sizeLine_eq]; simp only [Str.length_append, lenSl, lenSd, lenMp]; omega))))
local macro_rules | `(tactic| walk_at "eval Call") => `(tactic| refine Call_ ?_)
local macro_rules | `(tactic| walk_at "callWith ref") => `(tactic| (k_here; k_dflt (refine' callWith_K ?k1 ?k2 ?_; (case k1 => k_asm); (case k2 => k_is); k_whole)))
local macro_rules | `(tactic| walk_at "newList") => `(tactic| (k_here; k_dflt (refine' newList_K _ _ ?_; walk_at "cc"); walk_at "il"))
local macro_rules | `(tactic| walk_at "eval Name") => `(tactic| (k_here; k_dflt (refine' nameX_L ?F ?v ?_; (case F => k_asm); (case v => first | exact M6.off (by with_reducible assumption) rfl | rfl))))
local macro_rules | `(tactic| walk_at "storeName") => `(tactic| (k_here; k_dflt (refine' storeC ?F ?N ?c ?U ?d ?_ ?a ?b; (case a => rfl); (case b => rfl); (case F => k_asm); (case N => k_asm); (case c => rfl); (case U => k_updF); (case d => k_asm)); intros; rename_i N' d'; (try dsimp only at N'); (try k_sweep)))
local macro_rules | `(tactic| walk_at "storeName") => `(tactic| (k_here; k_dflt (refine' storeIntC ?F ?N ?c ?U ?d ?_ ?a ?b; (case a => rfl); (case b => rfl); (case F => k_asm); (case N => k_asm); (case c => rfl); (case U => k_updF); (case d => k_asm)); intros; rename_i N' d'; (try dsimp only at N'); (try k_sweep)))
local macro_rules | `(tactic| walk_at "storeName") => `(tactic| (k_here; k_dflt (refine' storeS _ _ ?_; walk_at "cc"); intros; (try k_sweep)))
local macro_rules | `(tactic| walk_at "storeName") => `(tactic| (k_here; k_dflt (refine' storeIntS _ _ ?_; walk_at "cc"); intros; (try k_sweep)))
local macro_rules | `(tactic| walk_at "call builtin:len") => `(tactic| (k_here; k_dflt (refine' lenV ?N ?m ?i ?k ?z ?_; (case N => k_asm); (case m => k_mem); (case i => assumption); (case k => rfl); (case z => omega)); intro _ _))
local macro_rules | `(tactic| walk_at "mine itemI") => `(tactic| (k_here; k_dflt (refine' itemI ?N ?m ?i ?a ?b ?z ?_; (case N => k_asm); (case m => k_mem); (case i => with_reducible assumption); (case a => first | assumption | omega); (case b => first | assumption | omega); (case z => omega)); intro _))
local macro_rules | `(tactic| walk_at "subscriptTail Name BinOp ref int") => `(tactic| walk_at "mine itemI")
local macro_rules | `(tactic| walk_at "subscriptTail Name Name ref int") => `(tactic| walk_at "mine itemI")
local macro_rules | `(tactic| walk_at "CompSrcT") => `(tactic| refine Stop.to ?_)
local macro_rules | `(tactic| walk_at "binaryOp Mult int int") => `(tactic| (refine mul_int ?_ ?hm; (case hm => first | assumption | mul_fits)))
local macro_rules | `(tactic| walk_at "subscriptTail ListComp Constant ref int") => `(tactic| walk_at "mine itemI")
local macro_rules | `(tactic| walk_at "eval IfExp") => `(tactic| (rename StopIf => hStopIf; refine Stop.to ?_))
local macro_rules | `(tactic| walk_at "mine for") => `(tactic| (k_here; (rename Fr _ _ _ _ => lF'); (with_unfolding_all refine' For_invVF lF' ?k1 ?k2 ?_; (case k1 => exact rfl); (case k2 => exact rfl))))
local macro_rules | `(tactic| walk_at "exec For Name Name cons nil") => `(tactic| walk_at "mine for")
local macro_rules | `(tactic| walk_at "exec Assign cons List") => `(tactic| (rename StopIf => hStopIf; refine Stop.to ?_))
local macro_rules | `(tactic| walk_at "compareOp NotEq ref ref") => `(tactic| refine Stop.to ?_)
local macro_rules | `(tactic| walk_at "call builtin:abs") => `(tactic| (k_here; k_dflt (refine' absV ?e ?_; (case e => assumption)); intro _ _))
local macro_rules | `(tactic| walk_at "exec For Name Subscript cons nil") => `(tactic| walk_at "mine for")
local macro_rules | `(tactic| walk_at "binaryOp Mult ref int") => `(tactic| refine Stop.to ?_)
local macro_rules | `(tactic| walk_at "subscriptTail BinOp Slice ref ref") => `(tactic| refine Stop.to ?_)
local macro_rules | `(tactic| walk_at "exec For Name List cons nil") => `(tactic| walk_at "mine for")
noncomputable def lawA : PSigma fun (Bp : World → Shared → Addr → Value → (Flow → Shared → Prop) → (Str → Option Value) → Nat → Nat → List Value → Nat → Nat → List Value → Obj → Obj → Obj → Obj → Obj → Obj → Int → List Int → List Int → Int → Prop) => (∀ (w0 : World) (s1 : Shared) (fa : Addr) (cd : Value) (Q9 : Flow → Shared → Prop) (m1 : Str → Option Value) (F : Nat) (epf : Nat) (fvs : List Value) (R : Nat) (epr : Nat) (rvs : List Value) (o1 : Obj) (o2 : Obj) (o3 : Obj) (o4 : Obj) (o5 : Obj) (o7 : Obj) (b : Int) (row : List Int) (fs : List Int) (sz : Int) (ns : List Int) (sc : Nat) (sv : List Value) (t2 : Nat) (t3 : Nat) (v7 : Option Value) (loose : List Str) (mean : ExcName → Option Value) (mg : Str → Option Value) (mb : Str → Option Value), ((Mine.hd.heap_1 w0.params).In (ghostOf s1.heap [(48, 44), (41, 37)])) → (Top topProg loose mean mg mb (ghostOf s1.heap [(48, 44), (41, 37)])) → (Below callerA (ghostOf s1.heap [(48, 44), (41, 37)]) [] (ghostOf s1.heap [(48, 44), (41, 37)])) → (CodeHd (ghostOf s1.heap [(48, 44), (41, 37)]) 48 44) → (CodeHd (ghostOf s1.heap [(48, 44), (41, 37)]) 41 37) → (@LT.lt Nat _ 44 s1.heap.objs.size ∧ @LT.lt Nat _ 37 s1.heap.objs.size) → (∀ (h' : Heap) (tk' : Nat) (m' : Str → Option Value) (nw : List (Addr × Obj)) (p44 p37 : Array Value), Fr (ghostOf s1.heap [(48, 44), (41, 37)]) s1.heap.objs.size h' m' → News (ghostOf s1.heap [(48, 44), (41, 37)]) s1.heap.objs.size h' ((44, tabObj p44) :: (37, tabObj p37) :: nw) → Q9 (.ret (.bool true)) { s1 with heap := h', toks := tk' }) → (2 ≤ sz) → (Stop (sz ≤ 5)) → (sz ≤ 500) → (Stop (b = sz ∨ b = -sz)) → (ns.length ≤ 63) → (Heap.IsList (ghostOf s1.heap [(48, 44), (41, 37)]) sc sv.toArray) → (IntsAre sv ns) → (o1.data = .cell (some (.ref sc))) → (o7.data = .cell v7) → (-500 ≤ b) → (b ≤ 500) → (o2.data = .cell (some (.int sz t2))) → (o3.data = .cell (some (.int b t3))) → (IntsAre rvs row) → (1 ≤ row.length) → (row.length ≤ 3) → (Mks sz row) → (@Ne Nat (s1.heap.objs.size + 1 + 1 + 1 + 1 + 1 + 1 + 1) R) → (IntsAre fvs fs) → ((fs.length : Int) = sz) → (∀ i : Int, 0 ≤ i → i < sz → Fac sz (fs.getD i.toNat 0)) → (o5.data = .cell (some (.ref F))) → (@Ne Nat (s1.heap.objs.size + 1 + 1 + 1 + 1 + 1 + 1 + 1) F) → (m1 (Str.ofString "row") = some (.ref R)) → Bp w0 s1 fa cd Q9 m1 F epf fvs R epr rvs o1 o2 o3 o4 o5 o7 b row fs sz) → PySem.Challenge.rw_pg0172_01.Holds := by
  refine' ⟨_, fun hP => Mine.hd ?hA⟩
  case hA =>
    w_top off
    k_go0
    all_goals try k_fold
    refine genQE fun Q9 hQ9 => ?_
    rename World => w0
    rename Shared => s1
    rename (Heap.get? _ _ = some _) => ho9
    obtain ⟨fa, o9, rfl, rfl, ho9⟩ := capGet ho9
    rename (Heap.CodeRec _ _ _) => hcd9
    obtain ⟨cd, rfl, hcd9⟩ := capCode hcd9
    rename List Int => ns
    rename Fr _ _ _ _ => F0
    rename News _ _ _ _ => N0
    have hlen : ns.length ≤ 63 := by omega
    have hend : ∀ (h' : Heap) (tk' : Nat) (m' : Str → Option Value) (nw : List (Addr × Obj)) (p44 p37 : Array Value), Fr (ghostOf s1.heap [(48, 44), (41, 37)]) s1.heap.objs.size h' m' → News (ghostOf s1.heap [(48, 44), (41, 37)]) s1.heap.objs.size h' ((44, tabObj p44) :: (37, tabObj p37) :: nw) → Q9 (.ret (.bool true)) { s1 with heap := h', toks := tk' } := by
      clear F0 N0
      intro h' tk' m' nw p44 p37 F' N'
      refine hQ9 _ _ ?_
      k_steps
    clear hQ9
    obtain ⟨m0, em⟩ := capM2 F0
    rw [em] at F0
    refine' split_tail (T := ∀ (h2 : Heap) (tk sc : Nat) (sv : List Value) (o1 o2 o3 o4 o5 o6 o7 : Obj) (v2 v3 v4 v5 v6 v7 : Option Value), Heap.IsList (ghostOf s1.heap [(48, 44), (41, 37)]) sc sv.toArray → IntsAre sv ns → o1.data = .cell (some (.ref sc)) → o2.data = .cell v2 → o3.data = .cell v3 → o4.data = .cell v4 → o5.data = .cell v5 → o6.data = .cell v6 → o7.data = .cell v7 →
      Fr (ghostOf s1.heap [(48, 44), (41, 37)]) s1.heap.objs.size h2 (M6 m0 []) → News (ghostOf s1.heap [(48, 44), (41, 37)]) s1.heap.objs.size h2 ((s1.heap.objs.size + 1 + 1 + 1 + 1 + 1 + 1 + 1, o7) :: (s1.heap.objs.size + 1 + 1 + 1 + 1 + 1 + 1, o6) :: (s1.heap.objs.size + 1 + 1 + 1 + 1 + 1, o5) :: (s1.heap.objs.size + 1 + 1 + 1 + 1, o4) :: (s1.heap.objs.size + 1 + 1 + 1, o3) :: (s1.heap.objs.size + 1 + 1, o2) :: (s1.heap.objs.size + 1, o1) :: (44, tabObj #[]) :: (37, tabObj #[]) :: []) → wpAny _ _ (execs _ _) _ _ { s1 with heap := h2, toks := tk }) ?S0m_s30 ?S0t_s30
    case S0m_s30 =>
      intro hT
      refine' hT _ _ _ _ _ _ _ _ _ _ _ _ _ _ _ _ _ ?a1_s30 ?a2_s30 ?d1_s30 ?d2_s30 ?d3_s30 ?d4_s30 ?d5_s30 ?d6_s30 ?d7_s30 ?aF_s30 ?aN_s30
      case aN_s30 => exact N0
      case aF_s30 => exact F0
      case a2_s30 => assumption
      case a1_s30 => assumption
      case d1_s30 => assumption
      case d2_s30 => assumption
      case d3_s30 => assumption
      case d4_s30 => assumption
      case d5_s30 => assumption
      case d6_s30 => assumption
      case d7_s30 => assumption
    case S0t_s30 =>
      clear F0 N0 em
      w_top off
      intro h2 tk sc sv o1 o2 o3 o4 o5 o6 o7 v2 v3 v4 v5 v6 v7 hsl hns d1 d2 d3 d4 d5 d6 d7 F2 N2
      refine' split_tail (T := ∀ (h2 : Heap) (tk t2 t3 : Nat) (sz b : Int) (o2 o3 : Obj), 2 ≤ sz → Stop (sz ≤ 5) → sz ≤ 500 → Stop (b = sz ∨ b = -sz) → -500 ≤ b → b ≤ 500 → o2.data = .cell (some (.int sz t2)) → o3.data = .cell (some (.int b t3)) →
        Fr (ghostOf s1.heap [(48, 44), (41, 37)]) s1.heap.objs.size h2 (M6 m0 []) → News (ghostOf s1.heap [(48, 44), (41, 37)]) s1.heap.objs.size h2 ((s1.heap.objs.size + 1 + 1 + 1 + 1 + 1 + 1 + 1, o7) :: (s1.heap.objs.size + 1 + 1 + 1 + 1 + 1 + 1, o6) :: (s1.heap.objs.size + 1 + 1 + 1 + 1 + 1, o5) :: (s1.heap.objs.size + 1 + 1 + 1 + 1, o4) :: (s1.heap.objs.size + 1 + 1 + 1, o3) :: (s1.heap.objs.size + 1 + 1, o2) :: (s1.heap.objs.size + 1, o1) :: (44, tabObj #[]) :: (37, tabObj #[]) :: []) → wpAny _ _ (exec _ _) _ _ { s1 with heap := h2, toks := tk }) ?S1m_s31 ?S1t_s31
      case S1m_s31 =>
        intro hT
        have hq := Int.fmod_nonneg_of_pos (ns.getD (Int.toNat 0) 0) (b := 4) (by decide)
        have hq2 := Int.fmod_lt_of_pos (ns.getD (Int.toNat 0) 0) (b := 4) (by decide)
        k_steps
        · unfold Stop
          refine' hT _ _ _ _ (2 + (ns.getD (Int.toNat 0) 0).fmod 4) _ _ _ ?a1_s31 (Stop.out ?a2_s31) ?a8_s31 (Stop.out ?a3_s31) ?a9_s31 ?aA_s31 ?a4_s31 ?a5_s31 ?a6_s31 ?a7_s31
          case a7_s31 => assumption
          case a6_s31 => assumption
          case a4_s31 => assumption
          case a5_s31 => assumption
          case a1_s31 => omega
          case a2_s31 => omega
          case a8_s31 => omega
          case a9_s31 => omega
          case aA_s31 => omega
          case a3_s31 => right; rfl
        · unfold Stop
          refine' hT _ _ _ _ (2 + (ns.getD (Int.toNat 0) 0).fmod 4) _ _ _ ?b1_s31 (Stop.out ?b2_s31) ?b8_s31 (Stop.out ?b3_s31) ?b9_s31 ?bA_s31 ?b4_s31 ?b5_s31 ?b6_s31 ?b7_s31
          case b7_s31 => assumption
          case b6_s31 => assumption
          case b4_s31 => assumption
          case b5_s31 => assumption
          case b1_s31 => omega
          case b2_s31 => omega
          case b8_s31 => omega
          case b9_s31 => omega
          case bA_s31 => omega
          case b3_s31 => left; rfl
      case S1t_s31 =>
        clear F2 N2 d2 d3
        w_top off
        intro h2 tk t2 t3 sz b o2 o3 hs2 hs5 hs9 hb hb0 hb1 d2 d3 F2 N2
        refine' split_tail (T := ∀ (h2 : Heap) (tk R epr : Nat) (rvs : List Value) (row : List Int), IntsAre rvs row → 1 ≤ row.length → row.length ≤ 3 → Mks sz row → (@Ne Nat (s1.heap.objs.size + 1 + 1 + 1 + 1 + 1 + 1 + 1) R ∧ @Ne Nat (s1.heap.objs.size + 1 + 1 + 1 + 1 + 1 + 1) R ∧ @Ne Nat (s1.heap.objs.size + 1 + 1 + 1 + 1 + 1) R ∧ @Ne Nat (s1.heap.objs.size + 1 + 1 + 1 + 1) R) →
          Fr (ghostOf s1.heap [(48, 44), (41, 37)]) s1.heap.objs.size h2 (M6 m0 [(Str.ofString "row", some (.ref R))]) → News (ghostOf s1.heap [(48, 44), (41, 37)]) s1.heap.objs.size h2 ((R, W.listOf rvs.toArray epr) :: (s1.heap.objs.size + 1 + 1 + 1 + 1 + 1 + 1 + 1, o7) :: (s1.heap.objs.size + 1 + 1 + 1 + 1 + 1 + 1, o6) :: (s1.heap.objs.size + 1 + 1 + 1 + 1 + 1, o5) :: (s1.heap.objs.size + 1 + 1 + 1 + 1, o4) :: (s1.heap.objs.size + 1 + 1 + 1, o3) :: (s1.heap.objs.size + 1 + 1, o2) :: (s1.heap.objs.size + 1, o1) :: (44, tabObj #[]) :: (37, tabObj #[]) :: []) → wpAny _ _ (exec _ _) _ _ { s1 with heap := h2, toks := tk }) ?S2m_s32 ?S2t_s32
        case S2m_s32 =>
          intro hT
          have hst := stopTold
          ((try unfold Stop); k_dflt (refine LCg.Assign_ListComp_U (F₀ := by k_asm) (by rfl) (by with_unfolding_all rfl) (by with_unfolding_all rfl) (by decide) (by rfl) (by decide) (by rfl) (by rfl) (by rfl) ?_))
          k_steps
          ((try unfold Stop); k_dflt (refine' kmk_slice_ints ?FX2_s32 ?NX2_s32 ?lX2_s32 ?pX2_s32 ?qX2_s32 ?iX2_s32 ?mX2_s32 ?cX2_s32 ?_ ?sX2_s32 ?tX2_s32 ?zX2_s32; (case FX2_s32 => k_asm); (case NX2_s32 => k_asm); (case lX2_s32 => kmk_list); (case pX2_s32 => kmk_part); (case qX2_s32 => kmk_part); (case iX2_s32 => assumption); (case mX2_s32 => first | (with_reducible refine' kmk_run ?maX2_s32 ?mbX2_s32 ?mcX2_s32; (case maX2_s32 => assumption); (case mbX2_s32 => omega); (case mcX2_s32 => omega)) | (with_reducible refine' kmk_from ?mdX2_s32 ?meX2_s32; (case mdX2_s32 => assumption); (case meX2_s32 => omega)) | (with_reducible refine' kmk_upto ?mfX2_s32 ?mgX2_s32; (case mfX2_s32 => assumption); (case mgX2_s32 => omega))); (case cX2_s32 => exact rfl); (case sX2_s32 => with_unfolding_all rfl); (case tX2_s32 => kmk_pure); (case zX2_s32 => exact vsz (by assumption) (by omega))); intro D' ws' h' F' N' l1 hI' hC' hl'; (try k_lt l1); (try k_sweep))
          k_steps
          unfold Stop
          rename News _ _ _ _ => N1
          rename Fr _ _ _ _ => F1
          rename IntsAre _ _ => I1
          have hl3 : (List.take (min (Int.toNat 4) ns.length - Int.toNat 1) (List.drop (Int.toNat 1) ns)).length ≤ 3 := by
            rw [List.length_take]
            have : min (Int.toNat 4) ns.length ≤ Int.toNat 4 := Nat.min_le_left _ _
            have e4 : Int.toNat 4 = 4 := rfl
            have e1 : Int.toNat 1 = 1 := rfl
            omega
          generalize List.take (min (Int.toNat 4) ns.length - Int.toNat 1) (List.drop (Int.toNat 1) ns) = sl at *
          obtain ⟨n1, en1⟩ := capN2 N1
          refine' LCg.CompSrc.ledger rfl F1 N1 ?hm_s32 ?hsz_s32 ?_
          case hm_s32 => k_mem
          case hsz_s32 => exact vsz I1 (by omega)
          intro g
          refine compInv (J := fun i ys nw => Stop (nw = n1 ∧ ∃ zs, IntsAre ys zs ∧ zs.length = i ∧ Mks sz zs)) ?turn_s32 ?fin_s32 _ 0 [] _ (Nat.zero_add _) ⟨en1, [], .nil, rfl, fun z hz => nomatch hz⟩
          case turn_s32 =>
            rintro i ys nw v I oI C oC D m₂ h tk E' hi ⟨rfl, zs, hys, hzl, hzb⟩ hv hC hx F2 N2 off ne
            subst en1
            obtain ⟨t, hlt, rfl⟩ := ints_at I1 (by simpa using hv)
            generalize hxv : List.getD _ i (0 : Int) = xv at *
            simp only [LCg.Off3, and_true] at off
            have hq := Int.fmod_nonneg_of_pos xv (b := sz) (by omega)
            have hq2 := Int.fmod_lt_of_pos xv (b := sz) (by omega)
            k_steps
            refine ⟨rfl, zs ++ [xv.fmod sz], IntsAre.append hys (.cons _ _ .nil), by simp [hzl], ?_⟩
            intro z hz
            rcases List.mem_append.mp hz with hz | hz
            · exact hzb z hz
            · rw [List.mem_singleton.mp hz]; omega
          case fin_s32 =>
            rintro ys nw ⟨rfl, zs, hys, hzl, hzb⟩
            subst en1
            have hz3 : zs.length ≤ 3 := by rw [hzl, List.size_toArray, I1.length]; exact hl3
            clear hzl
            unfold LCg.FinA
            intro D5 h5 tk5 F5 N5 o5
            replace F5 := Fr.upd F5
            simp only [LCg.Off1, and_true] at o5
            k_steps
            · unfold Stop
              refine' hT _ _ _ _ _ [1, 1, 0] ?a1_s32 ?a2_s32 ?a3_s32 ?a4_s32 ?a5_s32 ?a6_s32 ?a7_s32
              case a6_s32 => assumption
              case a7_s32 => (rename News _ _ _ _ => N9; exact News.sub N9 (by walk_at "mine sub2"))
              case a1_s32 => exact .cons _ _ (.cons _ _ (.cons _ _ .nil))
              case a2_s32 => decide
              case a3_s32 => decide
              case a4_s32 => exact one_mem hs2
              case a5_s32 => (refine ⟨?_, ?_, ?_, ?_⟩ <;> omega)
            · unfold Stop
              refine' hT _ _ _ _ _ zs ?b1_s32 ?b2_s32 ?b3_s32 ?b4_s32 ?b5_s32 ?b6_s32 ?b7_s32
              case b6_s32 => assumption
              case b7_s32 => (rename News _ _ _ _ => N9; exact News.sub N9 (by walk_at "mine sub2"))
              case b1_s32 => exact hys
              case b2_s32 =>
                rename decide (zs = []) = false => hz
                cases zs with
                | nil => simp at hz
                | cons x r => simp
              case b3_s32 => exact hz3
              case b4_s32 => exact hzb
              case b5_s32 => exact ⟨o5.2.1, o5.2.2.1, o5.2.2.2.1, o5.2.2.2.2.1⟩
        case S2t_s32 =>
          clear F2 N2
          w_top off
          intro h2 tk R epr rvs row hrv hr1 hr3 hmk hR F2 N2
          obtain ⟨hR7, hR6, hR5, hR4⟩ := hR
          refine' split_tail (T := ∀ (h2 : Heap) (tk tp F epf : Nat) (fvs : List Value) (fs : List Int) (o4 o5 : Obj), IntsAre fvs fs → (fs.length : Int) = sz → (∀ i : Int, 0 ≤ i → i < sz → Fac sz (fs.getD i.toNat 0)) → o5.data = .cell (some (.ref F)) → (@Ne Nat (s1.heap.objs.size + 1 + 1 + 1 + 1 + 1 + 1 + 1) F ∧ @Ne Nat (s1.heap.objs.size + 1 + 1 + 1 + 1 + 1 + 1) F ∧ @Ne Nat (s1.heap.objs.size + 1 + 1 + 1 + 1 + 1) F ∧ @Ne Nat (s1.heap.objs.size + 1 + 1 + 1 + 1) F) →
            Fr (ghostOf s1.heap [(48, 44), (41, 37)]) s1.heap.objs.size h2 (M6 m0 [(Str.ofString "row", some (.ref R)), (Str.ofString "product", some (.int 1 tp))]) → News (ghostOf s1.heap [(48, 44), (41, 37)]) s1.heap.objs.size h2 ((F, W.listOf fvs.toArray epf) :: (R, W.listOf rvs.toArray epr) :: (s1.heap.objs.size + 1 + 1 + 1 + 1 + 1 + 1 + 1, o7) :: (s1.heap.objs.size + 1 + 1 + 1 + 1 + 1 + 1, o6) :: (s1.heap.objs.size + 1 + 1 + 1 + 1 + 1, o5) :: (s1.heap.objs.size + 1 + 1 + 1 + 1, o4) :: (s1.heap.objs.size + 1 + 1 + 1, o3) :: (s1.heap.objs.size + 1 + 1, o2) :: (s1.heap.objs.size + 1, o1) :: (44, tabObj #[]) :: (37, tabObj #[]) :: []) → wpAny _ _ (pyIter (.ref R)) _ _ { s1 with heap := h2, toks := tk }) ?S3m_s33 ?S3t_s33
          case S3m_s33 =>
            intro hT
            have hst := StopIf.yes
            k_steps
            unfold Stop
            refine' c_units ?kB_s33 ?kF_s33 ?kX_s33 ?kN_s33 ?kT_s33 ?kh_s33 ?kd_s33 ?ku_s33 sz _ hs2 hs5.to ?_
            case kN_s33 => k_asm
            case kB_s33 => k_asm
            case kF_s33 => k_asm
            case kX_s33 => k_asm
            case kT_s33 => k_asm
            case kh_s33 => first | rfl | assumption
            case kd_s33 => ktr_room
            case ku_s33 => ktr_units
            intro h' tk' epu U uvs F' N' lU hU
            obtain ⟨hu1, hu8, huf⟩ := units_ok hs2 hs5.to
            obtain ⟨us, eus⟩ : ∃ us, us = unitsI sz := ⟨_, rfl⟩
            rw [← eus] at hU hu1 hu8 huf
            k_lt lU
            k_steps
            ((try unfold Stop); k_dflt (refine LCg.ListComp_U (F₀ := by k_asm) (by with_unfolding_all rfl) (by decide) (by rfl) (by decide) (by rfl) ?_))
            k_steps
            unfold Stop
            rename News _ _ _ _ => N3
            rename Fr _ _ _ _ => F3
            rename IsRange _ _ _ _ _ _ _ _ => hR3
            rename (Obj.data _ = Data.cell (some (Value.ref U))) => dU
            obtain ⟨n3, en3⟩ := capN2 N3
            obtain ⟨k, hk⟩ : ∃ k : Nat, sz = k := ⟨sz.toNat, by omega⟩
            refine' LCg.CompSrc.range (n := k) rfl F3 N3 hR3 (rng_smallA k (by omega) (by omega)) (rng_sizeA 0 k (by omega)) (by rw [sizeLine_eq]; omega) ?_
            intro g
            refine compInv (J := fun i ys nw => Stop (nw = n3 ∧ ∃ zs, IntsAre ys zs ∧ zs.length = i ∧ ∀ z ∈ zs, Fac sz z)) ?tu_s33 ?fi_s33 _ 0 [] _ (Nat.zero_add _) ⟨en3, [], .nil, rfl, fun z hz => nomatch hz⟩
            case tu_s33 =>
              rintro i ys nw v I2 oI C oC Dc m₂ h4 tk4 E' hi ⟨rfl, zs, hys, hzl, hzb⟩ hv hC hx F4 N4 off ne
              subst en3
              obtain ⟨t5, rfl⟩ := hv
              have hq : ∀ x : Int, 0 ≤ x.fmod (us.length : Int) := fun x => Int.fmod_nonneg_of_pos _ (by omega)
              have hq2 : ∀ x : Int, x.fmod (us.length : Int) < us.length := fun x => Int.fmod_lt_of_pos _ (by omega)
              k_steps
              refine ⟨rfl, zs ++ [_], IntsAre.append hys (.cons _ _ .nil), by simp [hzl], ?_⟩
              intro z hz
              rcases List.mem_append.mp hz with hz | hz
              · exact hzb z hz
              · rw [List.mem_singleton.mp hz]
                exact huf _ (getD_mem (hq _) (hq2 _))
            case fi_s33 =>
              rintro ys nw ⟨rfl, zs, hys, hzl, hzb⟩
              subst en3
              unfold LCg.FinE
              intro D5 h5 tk5 F5 N5 off5
              simp only [LCg.Off1, and_true] at off5
              k_steps
              unfold Stop
              refine' hT _ _ _ D5 _ ys zs _ _ hys ?a1_s33 (facs_of ?a1_s33 hzb) ?a2_s33 ?a3_s33 ?a4_s33 ?a5_s33
              case a4_s33 => assumption
              case a5_s33 => (rename News _ _ _ _ => N9; exact News.sub N9 (by walk_at "mine sub2"))
              case a2_s33 => assumption
              case a1_s33 => omega
              case a3_s33 => exact ⟨off5.2.2.1, off5.2.2.2.1, off5.2.2.2.2.1, off5.2.2.2.2.2.1⟩
          case S3t_s33 =>
            clear F2 N2
            w_top off
            intro h2 tk tp F epf fvs fs o4 o5 hfv hfl hF d5 hF7 F2 N2
            obtain ⟨hF7, hF6, hF5, hF4⟩ := hF7
            obtain ⟨m1, em1⟩ := capM2 F2
            have qR : m1 (Str.ofString "row") = some (.ref R) := (congrFun em1.symm _).trans rfl
            have qP : m1 (Str.ofString "product") = some (.int 1 tp) := (congrFun em1.symm _).trans rfl
            rw [em1] at F2
            clear em1
            refine' split_tail (T := ∀ (h2 : Heap) (tk td te t u v TT rg : Nat) (e : Int) (o6 : Obj) (u1 u2 : Option Value), o6.data = .cell (some (.int (b ^ row.length - prI fs row) td)) → 1 ≤ e → e < sz → sz ∣ e * (b ^ row.length - prI fs row) - 1 → @LT.lt Nat _ (s1.heap.objs.size + 1 + 1 + 1 + 1 + 1 + 1 + 1) TT → @LT.lt Nat _ F TT → @LT.lt Nat _ R TT → IsRange h2 rg 0 sz 1 t u v →
              Fr (ghostOf s1.heap [(48, 44), (41, 37)]) s1.heap.objs.size h2 (M6 m1 [(Str.ofString "mark", u1), (Str.ofString "product", u2), (Str.ofString "inverse", some (.int e te)), (Str.ofString "terms", some (.ref TT))]) →
              News (ghostOf s1.heap [(48, 44), (41, 37)]) s1.heap.objs.size h2 ((TT, W.listOf #[] 0) :: (F, W.listOf fvs.toArray epf) :: (R, W.listOf rvs.toArray epr) :: (s1.heap.objs.size + 1 + 1 + 1 + 1 + 1 + 1 + 1, o7) :: (s1.heap.objs.size + 1 + 1 + 1 + 1 + 1 + 1, o6) :: (s1.heap.objs.size + 1 + 1 + 1 + 1 + 1, o5) :: (s1.heap.objs.size + 1 + 1 + 1 + 1, o4) :: (s1.heap.objs.size + 1 + 1 + 1, o3) :: (s1.heap.objs.size + 1 + 1, o2) :: (s1.heap.objs.size + 1, o1) :: (44, tabObj #[]) :: (37, tabObj #[]) :: []) → wpAny _ _ (pyIter (.ref rg)) _ _ { s1 with heap := h2, toks := tk }) ?S4m_s34 ?S4t_s34
            case S4m_s34 =>
              intro hT
              refine' iterL (J := fun i m' n' => Stop (∃ (u : Option Value) (t : Nat), m' = M6 m1 [(Str.ofString "mark", u), (Str.ofString "product", some (.int (prI fs (row.take i)) t))] ∧ n' = ((F, W.listOf fvs.toArray epf) :: (R, W.listOf rvs.toArray epr) :: (s1.heap.objs.size + 1 + 1 + 1 + 1 + 1 + 1 + 1, o7) :: (s1.heap.objs.size + 1 + 1 + 1 + 1 + 1 + 1, o6) :: (s1.heap.objs.size + 1 + 1 + 1 + 1 + 1, o5) :: (s1.heap.objs.size + 1 + 1 + 1 + 1, o4) :: (s1.heap.objs.size + 1 + 1 + 1, o3) :: (s1.heap.objs.size + 1 + 1, o2) :: (s1.heap.objs.size + 1, o1) :: (44, tabObj #[]) :: (37, tabObj #[]) :: []))) (vs := rvs) (lo := W.listOf rvs.toArray epr) rfl F2 N2 ?hm_s34 rfl rfl ?h0_s34 ?hJ_s34 ?turn_s34 ?done_s34
              case hm_s34 => k_mem
              case h0_s34 =>
                refine' ⟨_, tp, ?ha_s34, rfl⟩
                case ha_s34 =>
                  rw [show (some (Value.int (prI fs (row.take 0)) tp)) = m1 (Str.ofString "product") from qP.symm]
                  exact M6_self m1 [Str.ofString "mark", Str.ofString "product"]
              case hJ_s34 =>
                rintro i m' n' ⟨u, t, rfl, rfl⟩
                k_mem
              case turn_s34 =>
                rintro I i v m₁ news₁ it h tk hv ⟨u, tq, rfl, rfl⟩ hit hne F₁ N₁
                obtain ⟨t, hlt, rfl⟩ := ints_at hrv hv
                have hxm : row.getD i 0 ∈ row := by
                  rw [List.getD_eq_getElem?_getD, List.getElem?_eq_getElem hlt]
                  exact List.getElem_mem hlt
                obtain ⟨hx0, hx1⟩ := hmk _ hxm
                obtain ⟨_, hf0, hf1⟩ := hF _ hx0 hx1
                have htk : prI fs (row.take (i + 1)) = prI fs (row.take i) * fs.getD (row.getD i 0).toNat 0 := by
                  rw [List.take_add_one, List.getElem?_eq_getElem hlt, Option.toList_some, pr_snoc, List.getD_eq_getElem?_getD (l := row), List.getElem?_eq_getElem hlt]
                  rfl
                generalize hxv : List.getD row i (0 : Int) = xv at *
                generalize prI fs (row.take i) = pv at *
                generalize prI fs (row.take (i + 1)) = pw at *
                have hne2 := neAll_of hne
                simp only [NeAll, and_true] at hne2
                replace F₁ := Fr.upd F₁
                refine forGen fun J1 Q1 hJ1 hQ1 => ?_
                k_steps
                refine' TurnEnd.intro ?tF_s34 ?tN_s34 ?tn_s34 ?tJ_s34
                case tF_s34 => assumption
                case tJ_s34 =>
                  refine' hJ1 _ _ ⟨_, _, ?ja_s34, rfl⟩
                  case ja_s34 => (rw [htk]; rfl)
                case tN_s34 => assumption
                case tn_s34 => exact hne
              case done_s34 =>
                rintro h' tk' m' news' F' N' ⟨u, tq, rfl, rfl⟩
                have hrl := hrv.length
                rw [hrl, List.take_length] at F'
                have hun := scale_un hb.to (pr_un hF hmk) hr1
                obtain ⟨j0, hj0, hj1⟩ := inv_ex hs2 hun
                have hD9 := D_bd hs2 hs5.to hb.to hF hmk hr3 rfl
                k_steps
                unfold Stop
                rename News _ _ _ _ => N3
                rename Fr _ _ _ _ => F3
                rename (Obj.data _ = Data.cell (some (Value.int (b ^ _ - _) _))) => d6'
                rw [Int.toNat_natCast] at d6'
                obtain ⟨D, eD⟩ : ∃ D, D = b ^ row.length - prI fs row := ⟨_, rfl⟩
                rw [← eD] at d6' hun hj1 hD9
                refine LCt.ListComp_T (F₀ := by k_asm) (by with_unfolding_all rfl) (by decide) (by rfl) (by decide) (by rfl) ?_
                k_steps
                unfold Stop
                rename IsRange _ _ _ _ _ _ _ _ => hR3
                rename News _ _ _ _ => N3
                rename Fr _ _ _ _ => F3
                obtain ⟨n3, en3⟩ := capN2 N3
                obtain ⟨k, hk⟩ : ∃ k : Nat, sz - 1 = k := ⟨(sz - 1).toNat, by omega⟩
                refine' LCt.CompSrcT.range (n := k) rfl F3 N3 hR3 (rng_smallA k (by omega) (by omega)) (rng_sizeA 1 k (by omega)) (by rw [sizeLine_eq]; omega) ?_
                intro g
                refine compInvT (J := fun j yc nw => Stop (nw = n3 ∧ ∃ zs, IntsAre yc zs ∧ zs.length ≤ j ∧ (∀ z ∈ zs, 1 ≤ z ∧ z < sz ∧ (z * D).fmod sz = 1) ∧ (j0 < j → zs ≠ []))) ?tu_s34 ?fi_s34 _ 0 [] _ (Nat.zero_add _) ⟨en3, [], .nil, Nat.le_refl _, (fun z hz => nomatch hz), fun h => absurd h (Nat.not_lt_zero _)⟩
                case tu_s34 =>
                  rintro j yc nw v I2 oI C oC Dc m₂ h4 tk4 E' hj ⟨rfl, zs, hyc, hzl, hzb, hzj⟩ hv hC hx F4 N4 off ne
                  subst en3
                  obtain ⟨t5, rfl⟩ := hv
                  k_steps
                  · refine ⟨rfl, zs ++ [1 + (j : Int)], IntsAre.append hyc (.cons _ _ .nil), by rw [List.length_append, List.length_singleton]; omega, ?_, fun _ => by simp⟩
                    intro z hz
                    rcases List.mem_append.mp hz with hz | hz
                    · exact hzb z hz
                    · rw [List.mem_singleton.mp hz]
                      exact ⟨by omega, by omega, by assumption⟩
                  · refine ⟨rfl, zs, hyc, by omega, hzb, fun h => ?_⟩
                    rename ¬ _ = (1 : Int) => hne1
                    refine hzj ?_
                    rcases Nat.lt_succ_iff_lt_or_eq.mp h with h | rfl
                    · exact h
                    · exact absurd hj1 hne1
                case fi_s34 =>
                  rintro yc nw ⟨rfl, zs, hyc, hzl, hzb, hzj⟩
                  subst en3
                  have hzn := hzj (by omega)
                  have hz1 : 1 ≤ zs.length := List.length_pos_iff.mpr hzn
                  have hze := hzb (zs.getD (Int.toNat 0) 0) (getD_mem (k := 0) (by decide) (by omega))
                  unfold LCg.FinE
                  intro D5 h5 tk5 F5 N5 off5
                  simp only [LCg.Off1, and_true] at off5
                  k_steps
                  unfold Stop
                  obtain ⟨e1, e2, e3⟩ := hze
                  refine' hT _ _ _ _ _ _ _ _ _ _ _ _ _ ?a1_s34 e1 e2 ?a2_s34 ?a3_s34 ?a4_s34 ?a5_s34 ?a6_s34 ?aF_s34 ?aN_s34
                  case aF_s34 => assumption
                  case aN_s34 => (rename News _ _ _ _ => N9; exact News.sub N9 (by walk_at "mine sub2"))
                  case a1_s34 => (rw [← eD]; exact d6')
                  case a2_s34 => (rw [← eD]; exact fmod_dvd e3)
                  case a3_s34 => omega
                  case a4_s34 => omega
                  case a5_s34 => omega
                  case a6_s34 => assumption
            case S4t_s34 =>
              clear F2 N2
              refine' hP w0 s1 fa cd Q9 m1 F epf fvs R epr rvs o1 o2 o3 o4 o5 o7 b row fs sz _ _ _ _ _ _ _ _ _ _ ?qKX9_s34 ?qKT9_s34 ?qKB9_s34 ?qC48_s34 ?qC41_s34 ?ql09_s34 hend hs2 hs5 hs9 hb hlen hsl hns d1 d7 hb0 hb1 d2 d3 hrv hr1 hr3 hmk hR7 hfv hfl hF d5 hF7 qR
              case qKX9_s34 => assumption
              case qKT9_s34 => assumption
              case qKB9_s34 => assumption
              case qC48_s34 => assumption
              case qC41_s34 => assumption
              case ql09_s34 => assumption
noncomputable def lawB : PSigma fun (Bp : World → Shared → Addr → Value → (Flow → Shared → Prop) → (Str → Option Value) → Nat → List Value → Nat → Nat → List Value → Nat → Obj → Int → List Int → List Int → Int → List Int → Prop) => (∀ (w0 : World) (s1 : Shared) (fa : Addr) (cd : Value) (Q9 : Flow → Shared → Prop) (m6 : Str → Option Value) (NL : Nat) (nvs : List Value) (ep : Nat) (R : Nat) (rvs : List Value) (epr : Nat) (o2 : Obj) (b : Int) (fs : List Int) (cs : List Int) (sz : Int) (ny : List Int) (row : List Int) (ts : List Int) (D : Int) (e : Int) (st : Int) (t1 : Nat) (t2 : Nat) (loose : List Str) (mean : ExcName → Option Value) (mg : Str → Option Value) (mb : Str → Option Value), ((Mine.hd.heap_1 w0.params).In (ghostOf s1.heap [(48, 44), (41, 37)])) → (Top topProg loose mean mg mb (ghostOf s1.heap [(48, 44), (41, 37)])) → (Below callerA (ghostOf s1.heap [(48, 44), (41, 37)]) [] (ghostOf s1.heap [(48, 44), (41, 37)])) → (@LT.lt Nat _ 44 s1.heap.objs.size ∧ @LT.lt Nat _ 37 s1.heap.objs.size) → (∀ (h' : Heap) (tk' : Nat) (m' : Str → Option Value) (nw : List (Addr × Obj)) (p44 p37 : Array Value), Fr (ghostOf s1.heap [(48, 44), (41, 37)]) s1.heap.objs.size h' m' → News (ghostOf s1.heap [(48, 44), (41, 37)]) s1.heap.objs.size h' ((44, tabObj p44) :: (37, tabObj p37) :: nw) → Q9 (.ret (.bool true)) { s1 with heap := h', toks := tk' }) → (2 ≤ sz) → (Stop (sz ≤ 5)) → (sz ≤ 500) → (Stop (b = sz ∨ b = -sz)) → (o2.data = .cell (some (.int sz t2))) → (IntsAre rvs row) → (1 ≤ row.length) → (row.length ≤ 3) → (Mks sz row) → (∀ i : Int, 0 ≤ i → i < sz → Fac sz (fs.getD i.toNat 0)) → (D = b ^ row.length - prI fs row) → (sz ∣ e * D - 1) → (Trm sz e fs ts) → (∀ i : Int, 0 ≤ i → i < sz → b * cs.getD i.toNat 0 = fs.getD i.toNat 0 * lowI b sz i + ts.getD i.toNat 0 * D) → (st = (stI b fs ts row).1) → (-1000 ≤ st ∧ st ≤ 1000) → (IntsAre nvs ny) → (ny.length ≤ 6) → (∀ y ∈ ny, -20000000 ≤ y ∧ y ≤ 20000000) → (m6 (Str.ofString "row") = some (.ref R)) → (m6 (Str.ofString "start") = some (.int st t1)) → (m6 (Str.ofString "numbers") = some (.ref NL)) → Bp w0 s1 fa cd Q9 m6 NL nvs ep R rvs epr o2 b fs cs sz ny) → ∀ (w0 : World) (s1 : Shared) (fa : Addr) (cd : Value) (Q9 : Flow → Shared → Prop) (m1 : Str → Option Value) (F : Nat) (epf : Nat) (fvs : List Value) (R : Nat) (epr : Nat) (rvs : List Value) (o1 : Obj) (o2 : Obj) (o3 : Obj) (o4 : Obj) (o5 : Obj) (o7 : Obj) (b : Int) (row : List Int) (fs : List Int) (sz : Int) (ns : List Int) (sc : Nat) (sv : List Value) (t2 : Nat) (t3 : Nat) (v7 : Option Value) (loose : List Str) (mean : ExcName → Option Value) (mg : Str → Option Value) (mb : Str → Option Value), ((Mine.hd.heap_1 w0.params).In (ghostOf s1.heap [(48, 44), (41, 37)])) → (Top topProg loose mean mg mb (ghostOf s1.heap [(48, 44), (41, 37)])) → (Below callerA (ghostOf s1.heap [(48, 44), (41, 37)]) [] (ghostOf s1.heap [(48, 44), (41, 37)])) → (CodeHd (ghostOf s1.heap [(48, 44), (41, 37)]) 48 44) → (CodeHd (ghostOf s1.heap [(48, 44), (41, 37)]) 41 37) → (@LT.lt Nat _ 44 s1.heap.objs.size ∧ @LT.lt Nat _ 37 s1.heap.objs.size) → (∀ (h' : Heap) (tk' : Nat) (m' : Str → Option Value) (nw : List (Addr × Obj)) (p44 p37 : Array Value), Fr (ghostOf s1.heap [(48, 44), (41, 37)]) s1.heap.objs.size h' m' → News (ghostOf s1.heap [(48, 44), (41, 37)]) s1.heap.objs.size h' ((44, tabObj p44) :: (37, tabObj p37) :: nw) → Q9 (.ret (.bool true)) { s1 with heap := h', toks := tk' }) → (2 ≤ sz) → (Stop (sz ≤ 5)) → (sz ≤ 500) → (Stop (b = sz ∨ b = -sz)) → (ns.length ≤ 63) → (Heap.IsList (ghostOf s1.heap [(48, 44), (41, 37)]) sc sv.toArray) → (IntsAre sv ns) → (o1.data = .cell (some (.ref sc))) → (o7.data = .cell v7) → (-500 ≤ b) → (b ≤ 500) → (o2.data = .cell (some (.int sz t2))) → (o3.data = .cell (some (.int b t3))) → (IntsAre rvs row) → (1 ≤ row.length) → (row.length ≤ 3) → (Mks sz row) → (@Ne Nat (s1.heap.objs.size + 1 + 1 + 1 + 1 + 1 + 1 + 1) R) → (IntsAre fvs fs) → ((fs.length : Int) = sz) → (∀ i : Int, 0 ≤ i → i < sz → Fac sz (fs.getD i.toNat 0)) → (o5.data = .cell (some (.ref F))) → (@Ne Nat (s1.heap.objs.size + 1 + 1 + 1 + 1 + 1 + 1 + 1) F) → (m1 (Str.ofString "row") = some (.ref R)) → lawA.1 w0 s1 fa cd Q9 m1 F epf fvs R epr rvs o1 o2 o3 o4 o5 o7 b row fs sz := by
  refine' ⟨_, fun hP => ?hA⟩
  case hA =>
    intro w0 s1 fa cd Q9 m1 F epf fvs R epr rvs o1 o2 o3 o4 o5 o7 b row fs sz ns sc sv t2 t3 v7 loose mean mg mb KX9 KT9 KB9 C48 C41 l09 hend hs2 hs5 hs9 hb hlen hsl hns d1 d7 hb0 hb1 d2 d3 hrv hr1 hr3 hmk hR7 hfv hfl hF d5 hF7 qR
    w_top off
    intro h2 tk td te t0 u0 v0 TT rg e o6 u1 u2 d6 he1 he2 he3 hTT hFT hRT hrng F2 N2
    obtain ⟨m2, em2⟩ := capM2 F2
    have qR2 : m2 (Str.ofString "row") = some (.ref R) := (congrFun em2.symm _).trans qR
    have qI2 : m2 (Str.ofString "inverse") = some (.int e te) := (congrFun em2.symm _).trans rfl
    have qT2 : m2 (Str.ofString "terms") = some (.ref TT) := (congrFun em2.symm _).trans rfl
    rw [em2] at F2
    clear em2 qR
    obtain ⟨D, eD⟩ : ∃ D, D = b ^ row.length - prI fs row := ⟨_, rfl⟩
    rw [← eD] at d6 he3
    refine' split_tail (T := ∀ (h2 : Heap) (tk t u v C rg ept : Nat) (tvs : List Value) (ts : List Int) (o7 : Obj) (u1 u2 : Option Value), IntsAre tvs ts → (ts.length : Int) = sz → Trm sz e fs ts → (∀ i : Int, 0 ≤ i → i < sz → -10 ≤ ts.getD i.toNat 0 ∧ ts.getD i.toNat 0 ≤ 10) → o7.data = .cell (some (.ref C)) → @LT.lt Nat _ (s1.heap.objs.size + 1 + 1 + 1 + 1 + 1 + 1 + 1) C → @LT.lt Nat _ TT C → @LT.lt Nat _ F C → @LT.lt Nat _ R C → IsRange h2 rg 0 sz 1 t u v →
      Fr (ghostOf s1.heap [(48, 44), (41, 37)]) s1.heap.objs.size h2 (M6 m2 [(Str.ofString "i", u1), (Str.ofString "least", u2)]) →
      News (ghostOf s1.heap [(48, 44), (41, 37)]) s1.heap.objs.size h2 ((C, W.listOf #[] 0) :: (TT, W.listOf tvs.toArray ept) :: (F, W.listOf fvs.toArray epf) :: (R, W.listOf rvs.toArray epr) :: (s1.heap.objs.size + 1 + 1 + 1 + 1 + 1 + 1 + 1, o7) :: (s1.heap.objs.size + 1 + 1 + 1 + 1 + 1 + 1, o6) :: (s1.heap.objs.size + 1 + 1 + 1 + 1 + 1, o5) :: (s1.heap.objs.size + 1 + 1 + 1 + 1, o4) :: (s1.heap.objs.size + 1 + 1 + 1, o3) :: (s1.heap.objs.size + 1 + 1, o2) :: (s1.heap.objs.size + 1, o1) :: (44, tabObj #[]) :: (37, tabObj #[]) :: []) → wpAny _ _ (pyIter (.ref rg)) _ _ { s1 with heap := h2, toks := tk }) ?S5m_s35 ?S5t_s35
    case S5m_s35 =>
      intro hT
      obtain ⟨k, hk⟩ : ∃ k : Nat, sz = k := ⟨sz.toNat, by omega⟩
      refine' iterRng (n := k) (J := fun i m' n' => Stop (∃ (u1 u2 : Option Value) (tvs : List Value) (ts : List Int) (ept : Nat), m' = M6 m2 [(Str.ofString "i", u1), (Str.ofString "least", u2)] ∧ n' = ((TT, W.listOf tvs.toArray ept) :: (F, W.listOf fvs.toArray epf) :: (R, W.listOf rvs.toArray epr) :: (s1.heap.objs.size + 1 + 1 + 1 + 1 + 1 + 1 + 1, o7) :: (s1.heap.objs.size + 1 + 1 + 1 + 1 + 1 + 1, o6) :: (s1.heap.objs.size + 1 + 1 + 1 + 1 + 1, o5) :: (s1.heap.objs.size + 1 + 1 + 1 + 1, o4) :: (s1.heap.objs.size + 1 + 1 + 1, o3) :: (s1.heap.objs.size + 1 + 1, o2) :: (s1.heap.objs.size + 1, o1) :: (44, tabObj #[]) :: (37, tabObj #[]) :: []) ∧
          IntsAre tvs ts ∧ ts.length = i ∧ ∀ j : Nat, j < i → sz ∣ ts.getD j 0 + fs.getD j 0 * j * e ∧ -10 ≤ ts.getD j 0 ∧ ts.getD j 0 ≤ 10)) rfl F2 N2 hrng (rng_smallA k (by omega) (by omega)) (rng_sizeA 0 k (by omega)) ?h0_s35 ?turn_s35 ?done_s35
      case h0_s35 =>
        refine' ⟨_, _, [], [], 0, ?ha_s35, rfl, .nil, rfl, fun j hj => absurd hj (Nat.not_lt_zero _)⟩
        case ha_s35 => exact M6_self m2 [Str.ofString "i", Str.ofString "least"]
      case turn_s35 =>
        rintro I i t m₁ news₁ it h tk3 hi ⟨u1, u2, tvs, ts, ept, rfl, rfl, htv, htl, htb⟩ hne F₁ N₁
        replace F₁ : Fr (ghostOf s1.heap [(48, 44), (41, 37)]) s1.heap.objs.size h _ := Fr.upd F₁
        refine forGen fun J1 Q1 hJ1 hQ1 => ?_
        replace N₁ : News (ghostOf s1.heap [(48, 44), (41, 37)]) s1.heap.objs.size h _ := N₁
        have hne2 := neAll_of hne
        simp only [NeAll, and_true] at hne2
        obtain ⟨_, hf0, hf1⟩ := hF (0 + (i : Int)) (by omega) (by omega)
        have hq := Int.fmod_nonneg_of_pos (-fs.getD (0 + (i : Int)).toNat 0 * (0 + (i : Int)) * e) (b := sz) (by omega)
        have hq2 := Int.fmod_lt_of_pos (-fs.getD (0 + (i : Int)).toNat 0 * (0 + (i : Int)) * e) (b := sz) (by omega)
        have htz : tvs.length ≤ 1000 := by rw [htv.length]; omega
        k_steps
        refine' TurnEnd.intro ?tF_s35 ?tN_s35 ?tn_s35 ?tJ_s35
        case tF_s35 => assumption
        case tN_s35 => assumption
        case tJ_s35 =>
          refine' hJ1 _ _ ⟨_, _, tvs ++ [_], ts ++ [_], _, ?ja_s35, rfl, IntsAre.append htv (.cons _ _ .nil), by rw [List.length_append, htl]; rfl, ?jb_s35⟩
          case ja_s35 => rfl
          case jb_s35 =>
            simp only [Int.zero_add, Int.toNat_natCast]
            exact snoc_getD (P := fun j x => sz ∣ x + fs.getD j 0 * j * e ∧ -10 ≤ x ∧ x ≤ 10) htl htb (trm_step hs2 hs5.to (mod3 _))
        case tn_s35 => exact ne_swap hne
      case done_s35 =>
        rintro h' tk' m' news' F' N' ⟨u1, u2, tvs, ts, ept, rfl, rfl, htv, htl, htb⟩
        k_steps
        unfold Stop
        refine' hT _ _ _ _ _ _ _ _ tvs ts _ _ _ htv ?a1_s35 ?a2_s35 ?a3_s35 ?a4_s35 ?a5_s35 ?a6_s35 ?a7_s35 ?a8_s35 ?a9_s35 ?aF_s35 ?aN_s35
        case aF_s35 => assumption
        case aN_s35 => assumption
        case a1_s35 => omega
        case a2_s35 =>
          intro i h0 h1
          obtain ⟨h2, _⟩ := htb i.toNat (by omega)
          rw [Int.toNat_of_nonneg h0] at h2
          exact h2
        case a3_s35 =>
          intro i h0 h1
          exact (htb i.toNat (by omega)).2
        case a4_s35 => assumption
        case a5_s35 => omega
        case a6_s35 => omega
        case a7_s35 => omega
        case a8_s35 => omega
        case a9_s35 => assumption
    case S5t_s35 =>
      clear F2 N2 hrng
      w_top off
      intro h2 tk t0 u0 v0 C rg ept tvs ts o7 u1 u2 htv htl htm htb d7 hCc hCT hCF hCR hrng F2 N2
      obtain ⟨m3, em3⟩ := capM2 F2
      have qR3 : m3 (Str.ofString "row") = some (.ref R) := (congrFun em3.symm _).trans qR2
      have qT3 : m3 (Str.ofString "terms") = some (.ref TT) := (congrFun em3.symm _).trans qT2
      rw [em3] at F2
      clear em3 qR2 qT2 qI2
      refine' split_tail (T := ∀ (h2 : Heap) (tk epc ts0 tp0 : Nat) (cvs : List Value) (cs : List Int) (u1 u2 : Option Value), IntsAre cvs cs → (cs.length : Int) = sz → (∀ i : Int, 0 ≤ i → i < sz → b * cs.getD i.toNat 0 = fs.getD i.toNat 0 * lowI b sz i + ts.getD i.toNat 0 * D) →
        Fr (ghostOf s1.heap [(48, 44), (41, 37)]) s1.heap.objs.size h2 (M6 m3 [(Str.ofString "i", u1), (Str.ofString "low", u2), (Str.ofString "start", some (.int 0 ts0)), (Str.ofString "power", some (.int 1 tp0))]) →
        News (ghostOf s1.heap [(48, 44), (41, 37)]) s1.heap.objs.size h2 ((C, W.listOf cvs.toArray epc) :: (TT, W.listOf tvs.toArray ept) :: (F, W.listOf fvs.toArray epf) :: (R, W.listOf rvs.toArray epr) :: (s1.heap.objs.size + 1 + 1 + 1 + 1 + 1 + 1 + 1, o7) :: (s1.heap.objs.size + 1 + 1 + 1 + 1 + 1 + 1, o6) :: (s1.heap.objs.size + 1 + 1 + 1 + 1 + 1, o5) :: (s1.heap.objs.size + 1 + 1 + 1 + 1, o4) :: (s1.heap.objs.size + 1 + 1 + 1, o3) :: (s1.heap.objs.size + 1 + 1, o2) :: (s1.heap.objs.size + 1, o1) :: (44, tabObj #[]) :: (37, tabObj #[]) :: []) → wpAny _ _ (pyIter (.ref R)) _ _ { s1 with heap := h2, toks := tk }) ?S6m_s36 ?S6t_s36
      case S6m_s36 =>
        intro hT
        obtain ⟨k, hk⟩ : ∃ k : Nat, sz = k := ⟨sz.toNat, by omega⟩
        have hD := D_bd hs2 hs5.to hb.to hF hmk hr3 eD
        have hb9 : b ≠ 0 := b_ne hs2 hb.to
        refine' iterRng (n := k) (J := fun i m' n' => Stop (∃ (u1 u2 : Option Value) (cvs : List Value) (cs : List Int) (epc : Nat), m' = M6 m3 [(Str.ofString "i", u1), (Str.ofString "low", u2)] ∧ n' = ((C, W.listOf cvs.toArray epc) :: (TT, W.listOf tvs.toArray ept) :: (F, W.listOf fvs.toArray epf) :: (R, W.listOf rvs.toArray epr) :: (s1.heap.objs.size + 1 + 1 + 1 + 1 + 1 + 1 + 1, o7) :: (s1.heap.objs.size + 1 + 1 + 1 + 1 + 1 + 1, o6) :: (s1.heap.objs.size + 1 + 1 + 1 + 1 + 1, o5) :: (s1.heap.objs.size + 1 + 1 + 1 + 1, o4) :: (s1.heap.objs.size + 1 + 1 + 1, o3) :: (s1.heap.objs.size + 1 + 1, o2) :: (s1.heap.objs.size + 1, o1) :: (44, tabObj #[]) :: (37, tabObj #[]) :: []) ∧
            IntsAre cvs cs ∧ cs.length = i ∧ ∀ j : Nat, j < i → b * cs.getD j 0 = fs.getD j 0 * lowI b sz j + ts.getD j 0 * D)) rfl F2 N2 hrng (rng_smallA k (by omega) (by omega)) (rng_sizeA 0 k (by omega)) ?h0_s36 ?turn_s36 ?done_s36
        case h0_s36 =>
          refine' ⟨_, _, [], [], 0, ?ha_s36, rfl, .nil, rfl, fun j hj => absurd hj (Nat.not_lt_zero _)⟩
          case ha_s36 => exact M6_self m3 [Str.ofString "i", Str.ofString "low"]
        case turn_s36 =>
          rintro I i t m₁ news₁ it h tk3 hi ⟨u1, u2, cvs, cs, epc, rfl, rfl, hcv, hcl, hcb⟩ hne F₁ N₁
          replace F₁ : Fr (ghostOf s1.heap [(48, 44), (41, 37)]) s1.heap.objs.size h _ := Fr.upd F₁
          refine forGen fun J1 Q1 hJ1 hQ1 => ?_
          replace N₁ : News (ghostOf s1.heap [(48, 44), (41, 37)]) s1.heap.objs.size h _ := N₁
          have hne2 := neAll_of hne
          simp only [NeAll, and_true] at hne2
          have hst := StopIf.yes
          have hcz : cvs.length ≤ 1000 := by rw [hcv.length]; omega
          k_steps
          unfold Stop
          refine joinInt (lowI b sz (0 + (i : Int))) ?_ ?_
          · rename StopIf => hst9; clear hst9
            k_steps
            all_goals exact ⟨_, _, intE (by unfold lowI; split <;> omega), rfl⟩
          · intro t4 tk4
            obtain ⟨hl0, hl1⟩ := low_bd (b := b) hs2 hs5.to (i := 0 + (i : Int)) (by omega) (by omega)
            obtain ⟨_, hf0, hf1⟩ := hF (0 + (i : Int)) (by omega) (by omega)
            obtain ⟨ht0, ht1⟩ := htb (0 + (i : Int)) (by omega) (by omega)
            have hcar := car_ok hb.to he3 (htm (0 + (i : Int)) (by omega) (by omega))
            generalize hlo : lowI b sz (0 + (i : Int)) = lo at *
            k_steps
            refine' TurnEnd.intro ?tF_s36 ?tN_s36 ?tn_s36 ?tJ_s36
            case tF_s36 => assumption
            case tN_s36 => assumption
            case tJ_s36 =>
              refine' hJ1 _ _ ⟨_, _, cvs ++ [_], cs ++ [_], _, ?ja_s36, rfl, IntsAre.append hcv (.cons _ _ .nil), by rw [List.length_append, hcl]; rfl, ?jb_s36⟩
              case ja_s36 => rfl
              case jb_s36 =>
                refine snoc_getD (P := fun j x => b * x = fs.getD j 0 * lowI b sz j + ts.getD j 0 * D) hcl hcb ?_
                rw [Int.zero_add] at hlo hcar ⊢
                rw [Int.toNat_natCast] at hcar ⊢
                rw [hlo]
                exact hcar
            case tn_s36 => exact ne_swap hne
        case done_s36 =>
          rintro h' tk' m' news' F' N' ⟨u1, u2, cvs, cs, epc, rfl, rfl, hcv, hcl, hcb⟩
          k_steps
          unfold Stop
          refine' hT _ _ _ _ _ cvs cs _ _ hcv ?a1_s36 ?a2_s36 ?aF_s36 ?aN_s36
          case aF_s36 => assumption
          case aN_s36 => assumption
          case a1_s36 => omega
          case a2_s36 =>
            intro i h0 h1
            have h2 := hcb i.toNat (by omega)
            rw [Int.toNat_of_nonneg h0] at h2
            exact h2
      case S6t_s36 =>
        clear F2 N2 hrng
        w_top off
        intro h2 tk epc ts0 tp0 cvs cs u1 u2 hcv hcl hcb F2 N2
        obtain ⟨m4, em4⟩ := capM2 F2
        have qR4 : m4 (Str.ofString "row") = some (.ref R) := (congrFun em4.symm _).trans qR3
        have qT4 : m4 (Str.ofString "terms") = some (.ref TT) := (congrFun em4.symm _).trans qT3
        have qS4 : m4 (Str.ofString "start") = some (.int 0 ts0) := (congrFun em4.symm _).trans rfl
        have qP4 : m4 (Str.ofString "power") = some (.int 1 tp0) := (congrFun em4.symm _).trans rfl
        rw [em4] at F2
        clear em4 qR3 qT3
        have hC3 : ∀ i : Int, 0 ≤ i → i < sz → -3000 ≤ cs.getD i.toNat 0 ∧ cs.getD i.toNat 0 ≤ 3000 := by
          intro i h0 h1
          exact car_bd (D := D) hs2 hs5.to hb.to (hF i h0 h1).2 (low_bd hs2 hs5.to h0 h1) (htb i h0 h1) (D_bd hs2 hs5.to hb.to hF hmk hr3 eD) (hcb i h0 h1)
        obtain ⟨st, est⟩ : ∃ st, st = (stI b fs ts row).1 := ⟨_, rfl⟩
        have hst0 : -1000 ≤ st ∧ st ≤ 1000 := by
          rw [est]
          exact st_bd (b_bd hs2 hs5.to hb.to) (fun i h0 h1 => (hF i h0 h1).2) htb hmk hr3
        refine' split_tail (T := ∀ (h2 : Heap) (tk t1 : Nat) (tl : List (Addr × Obj)) (u1 u2 : Option Value), TabS tl →
          Fr (ghostOf s1.heap [(48, 44), (41, 37)]) s1.heap.objs.size h2 (M6 m4 [(Str.ofString "mark", u1), (Str.ofString "start", some (.int st t1)), (Str.ofString "power", u2)]) →
          News (ghostOf s1.heap [(48, 44), (41, 37)]) s1.heap.objs.size h2 ((C, W.listOf cvs.toArray epc) :: (TT, W.listOf tvs.toArray ept) :: (F, W.listOf fvs.toArray epf) :: (R, W.listOf rvs.toArray epr) :: (s1.heap.objs.size + 1 + 1 + 1 + 1 + 1 + 1 + 1, o7) :: (s1.heap.objs.size + 1 + 1 + 1 + 1 + 1 + 1, o6) :: (s1.heap.objs.size + 1 + 1 + 1 + 1 + 1, o5) :: (s1.heap.objs.size + 1 + 1 + 1 + 1, o4) :: (s1.heap.objs.size + 1 + 1 + 1, o3) :: (s1.heap.objs.size + 1 + 1, o2) :: (s1.heap.objs.size + 1, o1) :: tl) → wpAny _ _ (exec _ _) _ _ { s1 with heap := h2, toks := tk }) ?S7m_s37 ?S7t_s37
        case S7m_s37 =>
          intro hT
          refine' iterL (J := fun i m' n' => Stop (∃ (u : Option Value) (t t' : Nat), m' = M6 m4 [(Str.ofString "mark", u), (Str.ofString "start", some (.int (stI b fs ts (row.take i)).1 t)), (Str.ofString "power", some (.int (stI b fs ts (row.take i)).2 t'))] ∧ n' = ((C, W.listOf cvs.toArray epc) :: (TT, W.listOf tvs.toArray ept) :: (F, W.listOf fvs.toArray epf) :: (R, W.listOf rvs.toArray epr) :: (s1.heap.objs.size + 1 + 1 + 1 + 1 + 1 + 1 + 1, o7) :: (s1.heap.objs.size + 1 + 1 + 1 + 1 + 1 + 1, o6) :: (s1.heap.objs.size + 1 + 1 + 1 + 1 + 1, o5) :: (s1.heap.objs.size + 1 + 1 + 1 + 1, o4) :: (s1.heap.objs.size + 1 + 1 + 1, o3) :: (s1.heap.objs.size + 1 + 1, o2) :: (s1.heap.objs.size + 1, o1) :: (44, tabObj #[]) :: (37, tabObj #[]) :: []))) (vs := rvs) (lo := W.listOf rvs.toArray epr) rfl F2 N2 ?hm_s37 rfl rfl ?h0_s37 ?hJ_s37 ?turn_s37 ?done_s37
          case hm_s37 => k_mem
          case h0_s37 =>
            refine' ⟨_, ts0, tp0, ?ha_s37, rfl⟩
            case ha_s37 =>
              rw [show (some (Value.int (stI b fs ts (row.take 0)).1 ts0)) = m4 (Str.ofString "start") from qS4.symm, show (some (Value.int (stI b fs ts (row.take 0)).2 tp0)) = m4 (Str.ofString "power") from qP4.symm]
              exact M6_self m4 [Str.ofString "mark", Str.ofString "start", Str.ofString "power"]
          case hJ_s37 =>
            rintro i m' n' ⟨u, t, t', rfl, rfl⟩
            k_mem
          case turn_s37 =>
            rintro I i v m₁ news₁ it h tk hv ⟨u, tq, tq', rfl, rfl⟩ hit hne F₁ N₁
            obtain ⟨t, hlt, rfl⟩ := ints_at hrv hv
            have hxm : row.getD i 0 ∈ row := by
              rw [List.getD_eq_getElem?_getD, List.getElem?_eq_getElem hlt]
              exact List.getElem_mem hlt
            obtain ⟨hx0, hx1⟩ := hmk _ hxm
            obtain ⟨_, hf0, hf1⟩ := hF _ hx0 hx1
            obtain ⟨ht0, ht1⟩ := htb _ hx0 hx1
            have htk := st_take (b := b) (fs := fs) (ts := ts) hlt
            generalize hxv : List.getD row i (0 : Int) = xv at *
            obtain ⟨sv1, hsv1⟩ : ∃ x, x = (stI b fs ts (row.take i)).1 := ⟨_, rfl⟩
            obtain ⟨sv2, hsv2⟩ : ∃ x, x = (stI b fs ts (row.take i)).2 := ⟨_, rfl⟩
            rw [← hsv1, ← hsv2] at F₁ htk
            have hne2 := neAll_of hne
            simp only [NeAll, and_true] at hne2
            replace F₁ := Fr.upd F₁
            refine forGen fun J1 Q1 hJ1 hQ1 => ?_
            k_steps
            refine' TurnEnd.intro ?tF_s37 ?tN_s37 ?tn_s37 ?tJ_s37
            case tF_s37 => assumption
            case tJ_s37 =>
              refine' hJ1 _ _ ⟨_, _, _, ?ja_s37, rfl⟩
              case ja_s37 => (rw [htk]; rfl)
            case tN_s37 => assumption
            case tn_s37 => exact hne
          case done_s37 =>
            rintro h' tk' m' news' F' N' ⟨u, tq, tq', rfl, rfl⟩
            have hrl := hrv.length
            rw [hrl, List.take_length, ← est] at F'
            have hif := StopIf.yes
            have S : Sys sz b D fs cs ts := ⟨hs2, hb.to, fun i h0 h1 => (hF i h0 h1).1, hcb⟩
            have hround := st_round S htm he3 hmk eD
            rw [← est] at hround
            k_steps
            unfold Stop
            rename Fr _ _ _ _ => F3
            rename News _ _ _ _ => N3
            replace N3 : News (ghostOf s1.heap [(48, 44), (41, 37)]) s1.heap.objs.size h' ((F, W.listOf fvs.toArray epf) :: (C, W.listOf cvs.toArray epc) :: (((TT, W.listOf tvs.toArray ept) :: (R, W.listOf rvs.toArray epr) :: (s1.heap.objs.size + 1 + 1 + 1 + 1 + 1 + 1 + 1, o7) :: (s1.heap.objs.size + 1 + 1 + 1 + 1 + 1 + 1, o6) :: (s1.heap.objs.size + 1 + 1 + 1 + 1 + 1, o5) :: (s1.heap.objs.size + 1 + 1 + 1 + 1, o4) :: (s1.heap.objs.size + 1 + 1 + 1, o3) :: (s1.heap.objs.size + 1 + 1, o2) :: (s1.heap.objs.size + 1, o1) :: []) ++ [(37, tabObj #[]), (44, tabObj #[])])) := News.sub N3 (by simp only [List.cons_append, List.nil_append]; walk_at "mine sub2")
            refine' c_walk ?kB_s37 ?kF_s37 ?kX_s37 N3 ?kT_s37 ?kh_s37 ?kC1_s37 ?kC2_s37 ⟨[_], [_], rfl, .inl rfl, .inl rfl⟩ ?kpo_s37 ?kd_s37 ?ku_s37 hfv hcv st b sz row.length _ _ _ hs2 hs5.to hb.to hfl hcl ?kn_s37 (facs_bits hfl hF) ?kx_s37 ?_
            case kB_s37 => k_asm
            case kF_s37 => k_asm
            case kX_s37 => k_asm
            case kT_s37 => k_asm
            case kh_s37 => first | rfl | assumption
            case kC1_s37 => assumption
            case kC2_s37 => assumption
            case kpo_s37 => walk_at "mine preok"
            case kd_s37 => ktr_room
            case ku_s37 => ktr_units
            case kn_s37 => omega
            case kx_s37 => exact fun i hi => walk_62 hs2 hs5.to hb.to (fun i h0 h1 => (hF i h0 h1).2) hC3 (small_101 hst0) i (by omega)
            intro h4 tk4 t4 ep4 r4 S4 svs tl4 F4 TS4 N4 G4 l4 l5 I4
            simp only [hround] at N4 I4
            clear G4
            simp only [List.cons_append, List.nil_append] at N4 l4 l5
            k_lt l4
            k_steps
            unfold Stop
            rename News _ _ _ _ => N5
            refine' neTup (vs := svs) (ws := rvs) N5 ?na_s37 ?nc_s37 ?nl_s37 ?nk_s37 I4 hrv ?nu_s37 rfl rfl ?_
            case na_s37 => k_mem
            case nc_s37 => k_mem
            case nl_s37 => k_mem
            case nk_s37 => k_mem
            case nu_s37 => ke_room
            k_steps
            unfold Stop
            refine' hT _ _ _ tl4 _ _ TS4 ?aF_s37 ?aN_s37
            case aF_s37 => assumption
            case aN_s37 => (rename News _ _ _ _ => N9; exact News.sub N9 (by walk_at "mine sub2"))
        case S7t_s37 =>
          clear F2 N2 qS4 qP4
          w_top off
          intro h2 tk t1 tl u1 u2 TS F2 N2
          obtain ⟨m5, em5⟩ := capM2 F2
          have qR5 : m5 (Str.ofString "row") = some (.ref R) := (congrFun em5.symm _).trans qR4
          have qS5 : m5 (Str.ofString "start") = some (.int st t1) := (congrFun em5.symm _).trans rfl
          rw [em5] at F2
          clear em5 qR4 qT4
          replace F2 : Fr (ghostOf s1.heap [(48, 44), (41, 37)]) s1.heap.objs.size h2 (M6 m5 []) := F2
          refine' split_tail (T := ∀ (h2 : Heap) (tk ep NL : Nat) (nvs : List Value) (ny : List Int) (u1 u2 : Option Value), IntsAre nvs ny → ny.length ≤ 6 → (∀ y ∈ ny, -20000000 ≤ y ∧ y ≤ 20000000) →
            Fr (ghostOf s1.heap [(48, 44), (41, 37)]) s1.heap.objs.size h2 (M6 m5 [(Str.ofString "numbers", some (.ref NL)), (Str.ofString "v", u1), (Str.ofString "far", u2)]) →
            News (ghostOf s1.heap [(48, 44), (41, 37)]) s1.heap.objs.size h2 ((NL, W.listOf nvs.toArray ep) :: (C, W.listOf cvs.toArray epc) :: (TT, W.listOf tvs.toArray ept) :: (F, W.listOf fvs.toArray epf) :: (R, W.listOf rvs.toArray epr) :: (s1.heap.objs.size + 1 + 1 + 1 + 1 + 1 + 1 + 1, o7) :: (s1.heap.objs.size + 1 + 1 + 1 + 1 + 1 + 1, o6) :: (s1.heap.objs.size + 1 + 1 + 1 + 1 + 1, o5) :: (s1.heap.objs.size + 1 + 1 + 1 + 1, o4) :: (s1.heap.objs.size + 1 + 1 + 1, o3) :: (s1.heap.objs.size + 1 + 1, o2) :: (s1.heap.objs.size + 1, o1) :: tl) → wpAny _ _ (exec _ _) _ _ { s1 with heap := h2, toks := tk }) ?S8m_s38 ?S8t_s38
          case S8m_s38 =>
            intro hT
            have hsq : -125 ≤ sz ^ (Int.toNat 2) ∧ sz ^ (Int.toNat 2) ≤ 125 := pow_bd (z_bd hs2 hs5.to) (by decide)
            k_steps
            ((try unfold Stop); k_dflt (refine' kmk_slice_ints ?FX4_s38 ?NX4_s38 ?lX4_s38 ?pX4_s38 ?qX4_s38 ?iX4_s38 ?mX4_s38 ?cX4_s38 ?_ ?sX4_s38 ?tX4_s38 ?zX4_s38; (case FX4_s38 => k_asm); (case NX4_s38 => k_asm); (case lX4_s38 => kmk_list); (case pX4_s38 => kmk_part); (case qX4_s38 => kmk_part); (case iX4_s38 => assumption); (case mX4_s38 => (with_reducible refine' kmk_from_neg ?mdX4_s38 ?meX4_s38; (case mdX4_s38 => assumption); (case meX4_s38 => omega))); (case cX4_s38 => exact rfl); (case sX4_s38 => with_unfolding_all rfl); (case tX4_s38 => kmk_pure); (case zX4_s38 => exact vsz (by assumption) (by omega))); intro D' ws' h' F' N' l1 hI' hC' hl'; (try k_lt l1); (try k_sweep))
            k_steps
            unfold Stop
            rename News _ _ _ _ => N3
            rename Fr _ _ _ _ => F3
            rename IntsAre _ _ => I3
            have hl2 : (List.drop (ns.length - (- -2).toNat) ns).length ≤ 2 := by
              rw [List.length_drop]
              have : (- -2 : Int).toNat = 2 := rfl
              omega
            generalize List.drop (ns.length - (- -2).toNat) ns = sl at *
            obtain ⟨SL, so, NL, rr, rfl, eso, rfl, err, N4⟩ := cap3 N3
            subst eso err
            obtain ⟨sq, hsqe⟩ : ∃ x, x = sz ^ (Int.toNat 2) := ⟨_, rfl⟩
            refine' iterL (J := fun i m' n' => Stop (∃ (u1 u2 : Option Value) (nvs : List Value) (ny : List Int) (ep : Nat), m' = M6 m5 [(Str.ofString "numbers", some (.ref NL)), (Str.ofString "v", u1), (Str.ofString "far", u2)] ∧ n' = ((NL, W.listOf nvs.toArray ep) :: (SL, W.listOf ws'.toArray 0) :: (C, W.listOf cvs.toArray epc) :: (TT, W.listOf tvs.toArray ept) :: (F, W.listOf fvs.toArray epf) :: (R, W.listOf rvs.toArray epr) :: (s1.heap.objs.size + 1 + 1 + 1 + 1 + 1 + 1 + 1, o7) :: (s1.heap.objs.size + 1 + 1 + 1 + 1 + 1 + 1, o6) :: (s1.heap.objs.size + 1 + 1 + 1 + 1 + 1, o5) :: (s1.heap.objs.size + 1 + 1 + 1 + 1, o4) :: (s1.heap.objs.size + 1 + 1 + 1, o3) :: (s1.heap.objs.size + 1 + 1, o2) :: (s1.heap.objs.size + 1, o1) :: tl) ∧
                IntsAre nvs ny ∧ ny.length ≤ 4 + i ∧ ∀ y ∈ ny, -20000000 ≤ y ∧ y ≤ 20000000)) (vs := ws') (lo := W.listOf ws'.toArray 0) rfl F3 (News.sub N4 swap2) ?hm_s38 rfl rfl ?h0_s38 ?hJ_s38 ?turn_s38 ?done_s38
            case hm_s38 => k_mem
            case h0_s38 =>
              refine' ⟨_, _, [_, _, _, _], [st, st + 1, st + sz, st - sz ^ (Int.toNat 2)], 0, ?ha_s38, rfl, .cons _ _ (.cons _ _ (.cons _ _ (.cons _ _ .nil))), Nat.le_refl _, ?hb_s38⟩
              case ha_s38 => exact M6_adds m5 [Str.ofString "v", Str.ofString "far"] [(Str.ofString "numbers", some (.ref NL))]
              case hb_s38 =>
                exact nums_bd hst0 hs2 hs9 hsq
            case hJ_s38 =>
              rintro i m' n' ⟨u1, u2, nvs, ny, ep, rfl, rfl, _⟩
              k_mem
            case turn_s38 =>
              rintro I i v m₁ news₁ it h tk hv ⟨u1, u2, nvs, ny, ep, rfl, rfl, hnv, hnl, hnb⟩ hit hne F₁ N₁
              obtain ⟨t, hlt, rfl⟩ := ints_at I3 hv
              generalize hxv : List.getD sl i (0 : Int) = xv at *
              have hne2 := neAll_of hne
              simp only [NeAll, and_true] at hne2
              replace F₁ := Fr.upd F₁
              refine forGen fun J1 Q1 hJ1 hQ1 => ?_
              obtain ⟨av, hav⟩ : ∃ av, (if xv < 0 then -xv else xv) = av := ⟨_, rfl⟩
              have hp0 := Int.fmod_nonneg_of_pos av (b := 4) (by omega)
              have hp1 := Int.fmod_lt_of_pos av (b := 4) (by omega)
              have hq0 := Int.fmod_nonneg_of_pos (av.fdiv 4) (b := 100000) (by omega)
              have hq1 := Int.fmod_lt_of_pos (av.fdiv 4) (b := 100000) (by omega)
              have hfar := far_bd hs2 hs5.to ⟨hp0, hp1⟩ ⟨hq0, hq1⟩
              have hnz : nvs.length ≤ 1000 := by rw [hnv.length]; have hi2 : i < 2 := by omega
                                                 omega
              have hst := StopIf.yes
              k_steps
              unfold Stop
              refine joinInt (if xv < 0 then st - sz ^ (av.fmod 4).toNat * (1 + (av.fdiv 4).fmod 100000) else st + sz ^ (av.fmod 4).toNat * (1 + (av.fdiv 4).fmod 100000)) ?_ ?_
              · rename StopIf => hst9
                clear hst9
                k_steps
                all_goals exact ⟨_, _, intE (by split <;> omega), rfl⟩
              · intro t4 tk4
                have hyb : -20000000 ≤ (if xv < 0 then st - sz ^ (av.fmod 4).toNat * (1 + (av.fdiv 4).fmod 100000) else st + sz ^ (av.fmod 4).toNat * (1 + (av.fdiv 4).fmod 100000)) ∧ (if xv < 0 then st - sz ^ (av.fmod 4).toNat * (1 + (av.fdiv 4).fmod 100000) else st + sz ^ (av.fmod 4).toNat * (1 + (av.fdiv 4).fmod 100000)) ≤ 20000000 := far_y hst0 hfar
                generalize (if xv < 0 then st - sz ^ (av.fmod 4).toNat * (1 + (av.fdiv 4).fmod 100000) else st + sz ^ (av.fmod 4).toNat * (1 + (av.fdiv 4).fmod 100000)) = yv at *
                k_steps
                refine' TurnEnd.intro ?tF_s38 ?tN_s38 ?tn_s38 ?tJ_s38
                case tF_s38 => assumption
                case tN_s38 => assumption
                case tJ_s38 =>
                  refine' hJ1 _ _ ⟨_, _, nvs ++ [_], ny ++ [_], _, ?ja_s38, rfl, IntsAre.append hnv (.cons _ _ .nil), by rw [List.length_append, List.length_singleton]; omega, ?jb_s38⟩
                  case ja_s38 => rfl
                  case jb_s38 =>
                    intro y hy
                    rcases List.mem_append.mp hy with hy | hy
                    · exact hnb y hy
                    · rw [List.mem_singleton.mp hy]; exact hyb
                case tn_s38 => exact ne_swap hne
            case done_s38 =>
              rintro h' tk' m' news' F' N' ⟨u1, u2, nvs, ny, ep, rfl, rfl, hnv, hnl, hnb⟩
              have hnl6 : ny.length ≤ 6 := by have := I3.length; omega
              k_steps
              unfold Stop
              refine' hT _ _ _ _ nvs ny _ _ hnv hnl6 hnb ?aF_s38 ?aN_s38
              case aF_s38 => assumption
              case aN_s38 => (rename News _ _ _ _ => N9; exact News.sub N9 (by walk_at "mine sub2"))
          case S8t_s38 =>
            clear F2 N2
            w_top off
            intro h2 tk ep NL nvs ny u1 u2 hnv hny hnb F2 N2
            obtain ⟨m6, em6⟩ := capM2 F2
            have qR6 : m6 (Str.ofString "row") = some (.ref R) := (congrFun em6.symm _).trans qR5
            have qS6 : m6 (Str.ofString "start") = some (.int st t1) := (congrFun em6.symm _).trans qS5
            have qN6 : m6 (Str.ofString "numbers") = some (.ref NL) := (congrFun em6.symm _).trans rfl
            rw [em6] at F2
            clear em6 qR5 qS5
            replace F2 : Fr (ghostOf s1.heap [(48, 44), (41, 37)]) s1.heap.objs.size h2 (M6 m6 []) := F2
            refine' split_tail (T := ∀ (h2 : Heap) (tk t u v RL rg : Nat) (p44 p37 : Array Value) (ros : List CO), IntsOk (fun y => (walkI b fs cs sz 5 y).1) ros ny → IsRange h2 rg 1 6 1 t u v →
              Fr (ghostOf s1.heap [(48, 44), (41, 37)]) s1.heap.objs.size h2 (M6 m6 [(Str.ofString "rows", some (.ref RL))]) →
              News (ghostOf s1.heap [(48, 44), (41, 37)]) s1.heap.objs.size h2 ((RL, LCg.lst (ros.map coRef)) :: (NL, W.listOf nvs.toArray ep) :: (R, W.listOf rvs.toArray epr) :: ((s1.heap.objs.size + 1 + 1), o2) :: (44, tabObj p44) :: (37, tabObj p37) :: ros.map coObj) → wpAny _ _ (pyIter (.ref rg)) _ _ { s1 with heap := h2, toks := tk }) ?S9m_s39 ?S9t_s39
            case S9m_s39 =>
              intro hT
              ((try unfold Stop); k_dflt (refine LCg.Assign_ListComp_U (F₀ := by k_asm) (by rfl) (by with_unfolding_all rfl) (by with_unfolding_all rfl) (by decide) (by rfl) (by decide) (by rfl) (by rfl) (by rfl) ?_))
              k_steps
              unfold Stop
              have N3 := News.sub N2 (l' := ((NL, W.listOf nvs.toArray ep) :: (C, W.listOf cvs.toArray epc) :: (TT, W.listOf tvs.toArray ept) :: (F, W.listOf fvs.toArray epf) :: (R, W.listOf rvs.toArray epr) :: (s1.heap.objs.size + 1 + 1 + 1 + 1 + 1 + 1 + 1, o7) :: (s1.heap.objs.size + 1 + 1 + 1 + 1 + 1 + 1, o6) :: (s1.heap.objs.size + 1 + 1 + 1 + 1 + 1, o5) :: (s1.heap.objs.size + 1 + 1 + 1 + 1, o4) :: (s1.heap.objs.size + 1 + 1 + 1, o3) :: (s1.heap.objs.size + 1 + 1, o2) :: (s1.heap.objs.size + 1, o1) :: []) ++ (([] : List CO).map coObj ++ tl)) (by simp only [List.map_nil, List.nil_append, List.cons_append]; exact fun _ h => h)
              refine' LCg.CompSrc.ledger rfl ?hF_s39 ?hN_s39 ?hm_s39 ?hsz_s39 ?_
              case hF_s39 => k_asm
              case hN_s39 => exact N3
              case hm_s39 => k_mem
              case hsz_s39 => exact vsz hnv (by omega)
              intro g
              refine' compInv (J := fun i yc nw => Stop (∃ (ros : List CO) (tl : List (Addr × Obj)), TabS tl ∧ nw = ((NL, W.listOf nvs.toArray ep) :: (C, W.listOf cvs.toArray epc) :: (TT, W.listOf tvs.toArray ept) :: (F, W.listOf fvs.toArray epf) :: (R, W.listOf rvs.toArray epr) :: (s1.heap.objs.size + 1 + 1 + 1 + 1 + 1 + 1 + 1, o7) :: (s1.heap.objs.size + 1 + 1 + 1 + 1 + 1 + 1, o6) :: (s1.heap.objs.size + 1 + 1 + 1 + 1 + 1, o5) :: (s1.heap.objs.size + 1 + 1 + 1 + 1, o4) :: (s1.heap.objs.size + 1 + 1 + 1, o3) :: (s1.heap.objs.size + 1 + 1, o2) :: (s1.heap.objs.size + 1, o1) :: []) ++ (ros.map coObj ++ tl) ∧ yc = ros.map coRef ∧ IntsOk (fun y => (walkI b fs cs sz 5 y).1) ros (ny.take i))) ?turn_s39 ?fin_s39 _ 0 [] _ (Nat.zero_add _) ?h0_s39
              case h0_s39 => exact ⟨[], _, TS, rfl, rfl, trivial⟩
              case turn_s39 =>
                rintro i yc nw v I oI Cc oC Dc m₂ h tk E' hi ⟨ros, tl, TS, rfl, rfl, hro⟩ hv hC hx F2 N2 off ne
                obtain ⟨t, hlt, rfl⟩ := ints_at hnv (by simpa using hv)
                have hxm : ny.getD i 0 ∈ ny := by
                  rw [List.getD_eq_getElem?_getD, List.getElem?_eq_getElem hlt]
                  exact List.getElem_mem hlt
                obtain ⟨hx0, hx1⟩ := hnb _ hxm
                have htk : ny.take (i + 1) = ny.take i ++ [ny.getD i 0] := by
                  rw [List.take_add_one, List.getD_eq_getElem?_getD, List.getElem?_eq_getElem hlt]; rfl
                generalize hxv : List.getD ny i (0 : Int) = xv at *
                have off2 := off.mem
                obtain ⟨⟨p37, h37⟩, ⟨p44, h44⟩⟩ := TS.mems
                have hI37 : @Ne Nat I 37 ∧ @Ne Nat I 44 := ⟨Ne.symm (off2 _ (List.mem_append_right _ (List.mem_append_right _ h37))).1, Ne.symm (off2 _ (List.mem_append_right _ (List.mem_append_right _ h44))).1⟩
                have hC37 : @Ne Nat Cc 37 ∧ @Ne Nat Cc 44 := ⟨Ne.symm (off2 _ (List.mem_append_right _ (List.mem_append_right _ h37))).2.1, Ne.symm (off2 _ (List.mem_append_right _ (List.mem_append_right _ h44))).2.1⟩
                have pco := preOkCo ros
                simp only [List.cons_append, List.nil_append] at N2
                k_steps
                unfold Stop
                rename News _ _ _ _ => N4
                replace N4 : News (ghostOf s1.heap [(48, 44), (41, 37)]) s1.heap.objs.size h ((F, W.listOf fvs.toArray epf) :: (C, W.listOf cvs.toArray epc) :: (((I, oI) :: (Cc, oC) :: (Dc, LCg.lst (ros.map coRef)) :: (NL, W.listOf nvs.toArray ep) :: (TT, W.listOf tvs.toArray ept) :: (R, W.listOf rvs.toArray epr) :: (s1.heap.objs.size + 1 + 1 + 1 + 1 + 1 + 1 + 1, o7) :: (s1.heap.objs.size + 1 + 1 + 1 + 1 + 1 + 1, o6) :: (s1.heap.objs.size + 1 + 1 + 1 + 1 + 1, o5) :: (s1.heap.objs.size + 1 + 1 + 1 + 1, o4) :: (s1.heap.objs.size + 1 + 1 + 1, o3) :: (s1.heap.objs.size + 1 + 1, o2) :: (s1.heap.objs.size + 1, o1) :: ros.map coObj) ++ tl)) := News.sub N4 (by simp only [List.cons_append]; walk_at "mine sub2")
                refine' c_walk ?kB_s39 ?kF_s39 ?kX_s39 N4 ?kT_s39 ?kh_s39 ?kC1_s39 ?kC2_s39 TS ?kpo_s39 ?kd_s39 ?ku_s39 hfv hcv xv b sz 5 _ _ _ hs2 hs5.to hb.to hfl hcl ?kn_s39 (facs_bits hfl hF) ?kx_s39 ?_
                case kB_s39 => k_asm
                case kF_s39 => k_asm
                case kX_s39 => k_asm
                case kT_s39 => k_asm
                case kh_s39 => first | rfl | assumption
                case kC1_s39 => assumption
                case kC2_s39 => assumption
                case kpo_s39 => walk_at "mine preok"
                case kd_s39 => ktr_room
                case ku_s39 => ktr_units
                case kn_s39 => decide
                case kx_s39 => exact fun i hi => walk_62 hs2 hs5.to hb.to (fun i h0 h1 => (hF i h0 h1).2) hC3 (small_100 ⟨hx0, hx1⟩) i (by omega)
                intro h4 tk4 t4 ep4 r4 S4 svs tl4 F4 TS4 N4 G4 l4 l5 I4
                have G5 := G4
                clear l4
                simp only [List.cons_append] at N4
                k_steps
                unfold Stop
                refine LCg.CompEnd.intro F4 N4 (((NL, W.listOf nvs.toArray ep) :: (C, W.listOf cvs.toArray epc) :: (TT, W.listOf tvs.toArray ept) :: (F, W.listOf fvs.toArray epf) :: (R, W.listOf rvs.toArray epr) :: (s1.heap.objs.size + 1 + 1 + 1 + 1 + 1 + 1 + 1, o7) :: (s1.heap.objs.size + 1 + 1 + 1 + 1 + 1 + 1, o6) :: (s1.heap.objs.size + 1 + 1 + 1 + 1 + 1, o5) :: (s1.heap.objs.size + 1 + 1 + 1 + 1, o4) :: (s1.heap.objs.size + 1 + 1 + 1, o3) :: (s1.heap.objs.size + 1 + 1, o2) :: (s1.heap.objs.size + 1, o1) :: []) ++ ((ros ++ [(S4, svs, ep4)]).map coObj ++ tl4)) ?_ (LCg.Off3.of (offRows off2 (oI := oI) (oC := oC) (oD := LCg.lst (ros.map coRef)) (by k_mem) (by k_mem) (by k_mem) G5 l5)) ?_ ⟨ros ++ [(S4, svs, ep4)], tl4, TS4, rfl, ?_, ?_⟩
                · refine rows_sub (fx := (I, oI) :: (Cc, oC) :: (Dc, LCg.lst (ros.map coRef)) :: (NL, W.listOf nvs.toArray ep) :: (C, W.listOf cvs.toArray epc) :: (TT, W.listOf tvs.toArray ept) :: (F, W.listOf fvs.toArray epf) :: (R, W.listOf rvs.toArray epr) :: (s1.heap.objs.size + 1 + 1 + 1 + 1 + 1 + 1 + 1, o7) :: (s1.heap.objs.size + 1 + 1 + 1 + 1 + 1 + 1, o6) :: (s1.heap.objs.size + 1 + 1 + 1 + 1 + 1, o5) :: (s1.heap.objs.size + 1 + 1 + 1 + 1, o4) :: (s1.heap.objs.size + 1 + 1 + 1, o3) :: (s1.heap.objs.size + 1 + 1, o2) :: (s1.heap.objs.size + 1, o1) :: []) (by k_mem) ?_
                  simp only [List.cons_append, List.nil_append]
                  walk_at "mine sub2"
                · exact .inr ⟨W.listOf nvs.toArray ep, .head _, rfl, _, rfl⟩
                · simp only [List.map_append, List.map_cons, List.map_nil]
                · rw [htk]
                  exact IntsOk.snoc I4 hro
              case fin_s39 =>
                rintro yc nw ⟨ros, tl, TS, rfl, rfl, hro⟩
                have eL : nvs.toArray.size = ny.length := by rw [List.size_toArray, hnv.length]
                rw [eL, List.take_length] at hro
                unfold LCg.FinA
                intro RL h5 tk5 F5 N5 o5
                replace F5 := Fr.upd F5
                clear o5
                obtain ⟨⟨p37, h37⟩, ⟨p44, h44⟩⟩ := TS.mems
                replace N5 := News.sub N5 (l' := (RL, LCg.lst (ros.map coRef)) :: (NL, W.listOf nvs.toArray ep) :: (R, W.listOf rvs.toArray epr) :: ((s1.heap.objs.size + 1 + 1), o2) :: (44, tabObj p44) :: (37, tabObj p37) :: ros.map coObj) (by
                  intro p hp
                  simp only [List.mem_cons, List.mem_append, List.not_mem_nil, or_false] at hp ⊢
                  rcases hp with h | h | h | h | h | h | h
                  · simp only [h, true_or, or_true]
                  · simp only [h, true_or, or_true]
                  · simp only [h, true_or, or_true]
                  · simp only [h, true_or, or_true]
                  · rw [h]; simp only [h44, or_true]
                  · rw [h]; simp only [h37, or_true]
                  · simp only [h, true_or, or_true])
                k_steps
                unfold Stop
                refine' hT _ _ _ _ _ _ _ p44 p37 ros hro ?aR_s39 ?aF_s39 ?aN_s39
                case aF_s39 => assumption
                case aN_s39 => assumption
                case aR_s39 => assumption
            case S9t_s39 =>
              clear F2 N2
              refine' hP w0 s1 fa cd Q9 m6 NL nvs ep R rvs epr o2 b fs cs sz ny _ _ _ _ _ _ _ _ _ _ _ ?qKX9_s39 ?qKT9_s39 ?qKB9_s39 ?ql09_s39 hend hs2 hs5 hs9 hb d2 hrv hr1 hr3 hmk hF eD he3 htm hcb est hst0 hnv hny hnb qR6 qS6 qN6
              case qKX9_s39 => assumption
              case qKT9_s39 => assumption
              case qKB9_s39 => assumption
              case ql09_s39 => assumption
theorem lawC : ∀ (w0 : World) (s1 : Shared) (fa : Addr) (cd : Value) (Q9 : Flow → Shared → Prop) (m6 : Str → Option Value) (NL : Nat) (nvs : List Value) (ep : Nat) (R : Nat) (rvs : List Value) (epr : Nat) (o2 : Obj) (b : Int) (fs : List Int) (cs : List Int) (sz : Int) (ny : List Int) (row : List Int) (ts : List Int) (D : Int) (e : Int) (st : Int) (t1 : Nat) (t2 : Nat) (loose : List Str) (mean : ExcName → Option Value) (mg : Str → Option Value) (mb : Str → Option Value), ((Mine.hd.heap_1 w0.params).In (ghostOf s1.heap [(48, 44), (41, 37)])) → (Top topProg loose mean mg mb (ghostOf s1.heap [(48, 44), (41, 37)])) → (Below callerA (ghostOf s1.heap [(48, 44), (41, 37)]) [] (ghostOf s1.heap [(48, 44), (41, 37)])) → (@LT.lt Nat _ 44 s1.heap.objs.size ∧ @LT.lt Nat _ 37 s1.heap.objs.size) → (∀ (h' : Heap) (tk' : Nat) (m' : Str → Option Value) (nw : List (Addr × Obj)) (p44 p37 : Array Value), Fr (ghostOf s1.heap [(48, 44), (41, 37)]) s1.heap.objs.size h' m' → News (ghostOf s1.heap [(48, 44), (41, 37)]) s1.heap.objs.size h' ((44, tabObj p44) :: (37, tabObj p37) :: nw) → Q9 (.ret (.bool true)) { s1 with heap := h', toks := tk' }) → (2 ≤ sz) → (Stop (sz ≤ 5)) → (sz ≤ 500) → (Stop (b = sz ∨ b = -sz)) → (o2.data = .cell (some (.int sz t2))) → (IntsAre rvs row) → (1 ≤ row.length) → (row.length ≤ 3) → (Mks sz row) → (∀ i : Int, 0 ≤ i → i < sz → Fac sz (fs.getD i.toNat 0)) → (D = b ^ row.length - prI fs row) → (sz ∣ e * D - 1) → (Trm sz e fs ts) → (∀ i : Int, 0 ≤ i → i < sz → b * cs.getD i.toNat 0 = fs.getD i.toNat 0 * lowI b sz i + ts.getD i.toNat 0 * D) → (st = (stI b fs ts row).1) → (-1000 ≤ st ∧ st ≤ 1000) → (IntsAre nvs ny) → (ny.length ≤ 6) → (∀ y ∈ ny, -20000000 ≤ y ∧ y ≤ 20000000) → (m6 (Str.ofString "row") = some (.ref R)) → (m6 (Str.ofString "start") = some (.int st t1)) → (m6 (Str.ofString "numbers") = some (.ref NL)) → lawB.1 w0 s1 fa cd Q9 m6 NL nvs ep R rvs epr o2 b fs cs sz ny := by
  intro w0 s1 fa cd Q9 m6 NL nvs ep R rvs epr o2 b fs cs sz ny row ts D e st t1 t2 loose mean mg mb KX9 KT9 KB9 l09 hend hs2 hs5 hs9 hb d2 hrv hr1 hr3 hmk hF eD he3 htm hcb est hst0 hnv hny hnb qR6 qS6 qN6
  w_top off
  rename World => w0
  intro h2 tk t0 u0 v0 RL rg p44 p37 ros hro hrng F2 N2
  have S : Sys sz b D fs cs ts := ⟨hs2, hb.to, fun i h0 h1 => (hF i h0 h1).1, hcb⟩
  have hdue : ∀ (k : Nat), k ≤ 5 → ∀ y : Int, ((List.replicate 5 row).flatten.take k <+: (walkI b fs cs sz 5 y).1) ↔ sz ^ k ∣ y - st := fun k hk y => by rw [est]; exact st_due S htm he3 hmk hr1 eD hk y
  obtain ⟨r5, er5⟩ : ∃ r5, r5 = (List.replicate 5 row).flatten := ⟨_, rfl⟩
  rw [← er5] at hdue
  have hr5m : Mk r5 := by
    intro x hx
    rw [er5] at hx
    obtain ⟨l, hl, hx⟩ := List.mem_flatten.mp hx
    rw [List.eq_of_mem_replicate hl] at hx
    have := hmk x hx
    have := hs5.to
    omega
  have hr5l : 5 ≤ r5.length ∧ r5.length ≤ 15 := by
    rw [er5, List.length_flatten, List.map_replicate, List.sum_replicate_nat]
    omega
  obtain ⟨wf, ewf⟩ : ∃ wf : Int → List Int, wf = fun y => (walkI b fs cs sz 5 y).1 := ⟨_, rfl⟩
  have hwl : ∀ y, (wf y).length = 5 := fun y => by rw [ewf]; exact walkI_len ..
  have hwm : ∀ y, Mk (wf y) := fun y => by
    rw [ewf]
    exact walk_mk hs2 hs5.to y 5
  have hdue2 : ∀ (k : Nat), k ≤ 5 → ∀ y : Int, (r5.take k <+: wf y) ↔ sz ^ k ∣ y - st := by rw [ewf]; exact hdue
  rw [← ewf] at hro
  clear hdue
  obtain ⟨m7, em7⟩ := capM2 F2
  have qR7 : m7 (Str.ofString "row") = some (.ref R) := (congrFun em7.symm _).trans qR6
  have qS7 : m7 (Str.ofString "start") = some (.int st t1) := (congrFun em7.symm _).trans qS6
  have qN7 : m7 (Str.ofString "numbers") = some (.ref NL) := (congrFun em7.symm _).trans qN6
  have qW7 : m7 (Str.ofString "rows") = some (.ref RL) := (congrFun em7.symm _).trans rfl
  rw [em7] at F2
  clear em7 qR6 qS6 qN6
  refine' iterRng (n := 5) (J := fun i m' n' => Stop (m' (Str.ofString "row") = some (.ref R) ∧ m' (Str.ofString "start") = some (.int st t1) ∧ m' (Str.ofString "numbers") = some (.ref NL) ∧ m' (Str.ofString "rows") = some (.ref RL) ∧
      n' = (RL, LCg.lst (ros.map coRef)) :: (NL, W.listOf nvs.toArray ep) :: (R, W.listOf rvs.toArray epr) :: ((s1.heap.objs.size + 1 + 1), o2) :: (44, tabObj p44) :: (37, tabObj p37) :: ros.map coObj)) rfl F2 N2 hrng (rng_smallA 5 (by decide) (by decide)) (rng_sizeA 1 5 (by decide)) ?h0_s40 ?turn_s40 ?done_s40
  case h0_s40 => exact ⟨qR7, qS7, qN7, qW7, rfl⟩
  case done_s40 =>
    rintro h' tk' m' news' F' N' ⟨_, _, _, _, rfl⟩
    k_steps
    exact hend _ _ _ _ _ _ F' (News.sub N' fun p hp => .tail _ (.tail _ (.tail _ (.tail _ hp))))
  case turn_s40 =>
    rintro I i t m₁ news₁ it h tk3 hi ⟨qRk, qSk, qNk, qWk, rfl⟩ hne F₁ N₁
    clear qR7 qS7 qN7 qW7
    replace F₁ : Fr (ghostOf s1.heap [(48, 44), (41, 37)]) s1.heap.objs.size h (M6 m₁ [(Str.ofString "k", _)]) := F₁
    refine forGen fun J1 Q1 hJ1 hQ1 => ?_
    replace N₁ : News (ghostOf s1.heap [(48, 44), (41, 37)]) s1.heap.objs.size h _ := N₁
    obtain ⟨k, ek⟩ : ∃ k : Nat, k = 1 + i := ⟨_, rfl⟩
    have hkI : (1 : Int) + (i : Int) = (k : Int) := by omega
    rw [hkI] at F₁
    obtain ⟨base, ebase⟩ : ∃ base, base = (I, it) :: (RL, LCg.lst (ros.map coRef)) :: (NL, W.listOf nvs.toArray ep) :: (R, W.listOf rvs.toArray epr) :: ((s1.heap.objs.size + 1 + 1), o2) :: (44, tabObj p44) :: (37, tabObj p37) :: ros.map coObj := ⟨_, rfl⟩
    refine' split_tail (T := ∀ (h2 : Heap) (tk t9 u v rg xM xD : Nat) (code : List Int) (rs : List Rd) (u2 : Option Value), code.length ≤ 5 → code ≠ [] → Mk code → (∀ y : Int, (code <+: wf y) ↔ sz ^ k ∣ y - st) → RdsOk PySem.Challenge.rw_pg0172_01.row.prog w0 1 (fun _ => code) rs [0, 1] → RdsApart w0.params rs base → rs.map (fun r => Value.ref r.x) = [.ref xM, .ref xD] → IsRange h2 rg 0 (ny.length : Int) 1 t9 u v →
        Fr (ghostOf s1.heap [(48, 44), (41, 37)]) s1.heap.objs.size h2 (M6 m₁ [(Str.ofString "k", some (.int (k : Int) t)), (Str.ofString "parts", u2), (Str.ofString "module", some (.ref xM)), (Str.ofString "folder", some (.ref xD))]) →
        News (ghostOf s1.heap [(48, 44), (41, 37)]) s1.heap.objs.size h2 ((I, it) :: (RL, LCg.lst (ros.map coRef)) :: (NL, W.listOf nvs.toArray ep) :: (R, W.listOf rvs.toArray epr) :: ((s1.heap.objs.size + 1 + 1), o2) :: (44, tabObj p44) :: (37, tabObj p37) :: (ros.map coObj ++ rdsObjs w0.params rs)) → wpAny _ _ (pyIter (.ref rg)) _ _ { s1 with heap := h2, toks := tk }) ?SAm_s40 ?SAt_s40
    case SAm_s40 =>
      intro hT
      k_steps
      ((try unfold Stop); k_dflt (refine LCg.Assign_ListComp_U (F₀ := by k_asm) (by rfl) (by with_unfolding_all rfl) (by with_unfolding_all rfl) (by decide) (by rfl) (by decide) (by rfl) (by rfl) (by rfl) ?_))
      k_steps
      unfold Stop
      refine' KM.mul ?mF_s40 ?mN_s40 ?ml_s40 hrv (by decide) (by decide) ?mz_s40 ?_
      case mF_s40 => k_asm
      case mN_s40 => k_asm
      case ml_s40 => exact News.isList N₁ (by k_mem)
      case mz_s40 => (show rvs.length * 5 ≤ 2 ^ 24; rw [hrv.length]; omega)
      intro D8 h8 F8 N8 l8 i8 n8 s8 e8 e9 e10
      clear s8 e8 e9 e10 n8
      replace i8 : IntsAre (List.replicate (Int.toNat 5) rvs).flatten r5 := by rw [er5]; exact i8
      generalize (List.replicate (Int.toNat 5) rvs).flatten = r5v at *
      k_lt l8
      k_steps
      ((try unfold Stop); k_dflt (refine' kmk_slice_ints ?FX7_s40 ?NX7_s40 ?lX7_s40 ?pX7_s40 ?qX7_s40 ?iX7_s40 ?mX7_s40 ?cX7_s40 ?_ ?sX7_s40 ?tX7_s40 ?zX7_s40; (case FX7_s40 => k_asm); (case NX7_s40 => k_asm); (case lX7_s40 => kmk_list); (case pX7_s40 => kmk_part); (case qX7_s40 => kmk_part); (case iX7_s40 => assumption); (case mX7_s40 => first | (with_reducible refine' kmk_run ?maX7_s40 ?mbX7_s40 ?mcX7_s40; (case maX7_s40 => assumption); (case mbX7_s40 => omega); (case mcX7_s40 => omega)) | (with_reducible refine' kmk_from ?mdX7_s40 ?meX7_s40; (case mdX7_s40 => assumption); (case meX7_s40 => omega)) | (with_reducible refine' kmk_upto ?mfX7_s40 ?mgX7_s40; (case mfX7_s40 => assumption); (case mgX7_s40 => omega))); (case cX7_s40 => exact rfl); (case sX7_s40 => with_unfolding_all rfl); (case tX7_s40 => kmk_pure); (case zX7_s40 => exact vsz (by assumption) (by omega))); intro D' ws' h' F' N' l1 hI' hC' hl'; (try k_lt l1); (try k_sweep))
      k_steps
      unfold Stop
      rename News _ _ _ _ => N3
      rename Fr _ _ _ _ => F3
      rename IntsAre _ _ => I3
      rw [Int.toNat_natCast] at I3
      obtain ⟨code, ecode⟩ : ∃ c, c = r5.take k := ⟨_, rfl⟩
      have hcl5 : code.length ≤ 5 ∧ 1 ≤ code.length := by rw [ecode, List.length_take]; omega
      have hcm : Mk code := fun x hx => hr5m x (List.mem_of_mem_take (by rw [ecode] at hx; exact hx))
      have hcd : ∀ y : Int, (code <+: wf y) ↔ sz ^ k ∣ y - st := by rw [ecode]; exact hdue2 k (by omega)
      rw [← ecode] at I3
      obtain ⟨n3, en3⟩ := capN2 N3
      refine' LCg.CompSrc.ledger (k := 0) rfl F3 N3 ?hm_s40 ?hsz_s40 ?_
      case hm_s40 => k_mem
      case hsz_s40 => exact vsz I3 (by omega)
      intro g
      refine compInv (J := fun j yc nw => Stop (nw = n3 ∧ StrsAre yc ((code.take j).map wd))) ?tu_s40 ?fi_s40 _ 0 [] _ (Nat.zero_add _) ⟨en3, .nil⟩
      case tu_s40 =>
        rintro j yc nw v I2 oI C oC Dc m₂ h4 tk4 E' hj ⟨rfl, hyc⟩ hv hC hx F4 N4 off ne
        subst en3
        obtain ⟨t5, hlt5, rfl⟩ := ints_at I3 (by simpa using hv)
        have hjt : code.take (j + 1) = code.take j ++ [code.getD j 0] := by rw [List.take_add_one, List.getD_eq_getElem?_getD, List.getElem?_eq_getElem hlt5]; rfl
        have hb2 := hcm (code.getD j 0) (by rw [List.getD_eq_getElem?_getD, List.getElem?_eq_getElem hlt5]; exact List.getElem_mem hlt5)
        generalize hyv : List.getD code j (0 : Int) = yv at *
        obtain ⟨hb3, hb4⟩ := hb2
        k_steps
        refine ⟨rfl, ?_⟩
        rw [hjt, List.map_append]
        exact strsAre_append hyc (.cons _ _ .nil)
      case fi_s40 =>
        rintro yc nw ⟨rfl, hyc⟩
        subst en3
        rw [List.size_toArray, I3.length, List.take_length] at hyc
        have d0 : ((code.map wd).map (·.length)).sum + (code.map wd).length * 64 ≤ 16777216 := by have := wds_len hcm; rw [List.length_map]; omega
        have j1 : (PySem.Txt.join (Str.ofString ".") (code.map wd)).length ≤ 100000 := by have := join_len hcm lenDot; omega
        have j2 : (PySem.Txt.join (Str.ofString "/") (code.map wd)).length ≤ 100000 := by have := join_len hcm lenSl; omega
        unfold LCg.FinA
        intro PL h5 tk5 F5 N5 o5
        replace F5 := Fr.upd F5
        clear o5
        k_steps
        unfold Stop
        refine' c_readerM ?kB_s40 ?kF_s40 ?kX_s40 ?kN_s40 ?kT_s40 ?kh_s40 ?kd_s40 ?ku_s40 ?kx_s40 ?_
        case kN_s40 => k_asm
        case kB_s40 => k_asm
        case kF_s40 => k_asm
        case kX_s40 => k_asm
        case kT_s40 => k_asm
        case kh_s40 => first | rfl | assumption
        case kd_s40 => ktr_room
        case ku_s40 => ktr_units
        case kx_s40 => assumption
        intro h6 tk6 t6' t1' t2' t3' n' x' dx' S' l' ig' io' F6 N6 hD6 hm6 l1 l2 l3 l4 l5
        obtain ⟨rM, rfl, rfl, rsoM, rloM, rfl, ownM, offM, N7⟩ := capRd N6 ⟨by omega, by omega, by omega, by omega⟩ (apart5_lt l1 l2 l3 l4 l5)
        clear N6
        have offM2 : ∀ p ∈ base, Off5 rM p.1 := fun p hp => offM p (by
          rw [ebase] at hp
          revert p
          walk_at "mine sub2")
        clear l1 l2 l3 l4 l5 offM
        replace N7 := News.sub N7 (l' := (rM.ig, rM.io) :: (rM.x, instObj 121 rM.dx) :: (rM.dx, rdDict w0.params rM.t1 rM.t2 rM.t3 rM.S rM.l rM.ig rM.n) :: (rM.S, rM.so) :: (rM.l, rM.lo) :: (PL, LCg.lst yc) :: (I, it) :: (RL, LCg.lst (ros.map coRef)) :: (NL, W.listOf nvs.toArray ep) :: (R, W.listOf rvs.toArray epr) :: ((s1.heap.objs.size + 1 + 1), o2) :: (44, tabObj p44) :: (37, tabObj p37) :: ros.map coObj) (by show ∀ p ∈ _, p ∈ (rM.ig, rM.io) :: (rM.x, instObj 121 rM.dx) :: (rM.dx, rdDict w0.params rM.t1 rM.t2 rM.t3 rM.S rM.l rM.ig rM.n) :: (rM.S, rM.so) :: (rM.l, rM.lo) :: _; walk_at "mine sub2")
        have hcne : code ≠ [] := fun e => by rw [e] at hcl5; simp at hcl5
        have hc30 : code.length ≤ 30 := by omega
        k_steps
        unfold Stop
        refine' c_readerD ?gB_s40 ?gF_s40 ?gX_s40 ?gN_s40 ?gT_s40 ?gh_s40 ?gd_s40 ?gu_s40 hcm hcne hc30 ?_
        case gN_s40 => k_asm
        case gB_s40 => k_asm
        case gF_s40 => k_asm
        case gX_s40 => k_asm
        case gT_s40 => k_asm
        case gh_s40 => first | rfl | assumption
        case gd_s40 => ktr_room
        case gu_s40 => ktr_units
        intro h7 tk7 t7' tr' t1' t2' t3' n' epd' led' x' dx' S' l' ig' io' F7 N8 hD7 hm7 l1 l2
        obtain ⟨rD, rfl, rfl, rsoD, rloD, rfl, ownD, offD, N9⟩ := capRd N8 l2 l1
        clear N8
        have offD2 : ∀ p ∈ (rM.objs w0.params ++ base), Off5 rD p.1 := fun p hp => offD p (by
          rw [ebase] at hp
          revert p
          show ∀ p ∈ (rM.ig, rM.io) :: (rM.x, instObj 121 rM.dx) :: (rM.dx, rdDict w0.params rM.t1 rM.t2 rM.t3 rM.S rM.l rM.ig rM.n) :: (rM.S, rM.so) :: (rM.l, rM.lo) :: _, _
          walk_at "mine sub2")
        clear l1 l2 offD
        have N10 := News.sub N9 (l' := (I, it) :: (RL, LCg.lst (ros.map coRef)) :: (NL, W.listOf nvs.toArray ep) :: (R, W.listOf rvs.toArray epr) :: ((s1.heap.objs.size + 1 + 1), o2) :: (44, tabObj p44) :: (37, tabObj p37) :: (ros.map coObj ++ rdsObjs w0.params [rM, rD])) (rds_pair_sub (l := (I, it) :: (RL, LCg.lst (ros.map coRef)) :: (NL, W.listOf nvs.toArray ep) :: (R, W.listOf rvs.toArray epr) :: ((s1.heap.objs.size + 1 + 1), o2) :: (44, tabObj p44) :: (37, tabObj p37) :: ros.map coObj))
        k_steps
        unfold Stop
        refine' hT _ _ _ _ _ _ _ _ code [rM, rD] _ hcl5.1 hcne hcm hcd ⟨⟨⟨_, hD6, KvOk.init, Nat.le_refl _⟩, hm6, .inl ⟨by decide, _, rsoM.symm, rloM.symm⟩⟩, ⟨⟨_, hD7, KvOk.init, Nat.le_refl _⟩, hm7, .inr ⟨by decide, _, _, _, rsoD.symm, rloD.symm⟩⟩, trivial⟩ (rds_pair RdsApart.nil ownM offM2 ownD offD2) rfl ?aR_s40 ?aF_s40 ?aN_s40
        case aF_s40 => assumption
        case aN_s40 => assumption
        case aR_s40 => assumption
    case SAt_s40 =>
      clear F₁ N₁ F2 N2 hrng
      w_top off
      rename World => w0
      intro h2 tk t9 u9 v9 rg xM xD code rs u2' hcl hcne hcm hcd hrs hap hrx hrng F2 N2
      obtain ⟨m8, em8⟩ := capM2 F2
      have qR8 : m8 (Str.ofString "row") = some (.ref R) := (congrFun em8.symm _).trans qRk
      have qS8 : m8 (Str.ofString "start") = some (.int st t1) := (congrFun em8.symm _).trans qSk
      have qN8 : m8 (Str.ofString "numbers") = some (.ref NL) := (congrFun em8.symm _).trans qNk
      have qW8 : m8 (Str.ofString "rows") = some (.ref RL) := (congrFun em8.symm _).trans qWk
      have qk8 : m8 (Str.ofString "k") = some (.int (k : Int) t) := (congrFun em8.symm _).trans rfl
      have qM8 : m8 (Str.ofString "module") = some (.ref xM) := (congrFun em8.symm _).trans rfl
      have qD8 : m8 (Str.ofString "folder") = some (.ref xD) := (congrFun em8.symm _).trans rfl
      rw [em8] at F2
      clear em8 qRk qSk qNk qWk
      refine' iterRng (n := ny.length) (J := fun j m' n' => Stop (∃ (rs' : List Rd) (w1 w2 w3 w4 w5 : Option Value), m' = M6 m8 [(Str.ofString "j", w1), (Str.ofString "due", w2), (Str.ofString "words", w3), (Str.ofString "reader", w4), (Str.ofString "told", w5)] ∧
          n' = (I, it) :: (RL, LCg.lst (ros.map coRef)) :: (NL, W.listOf nvs.toArray ep) :: (R, W.listOf rvs.toArray epr) :: ((s1.heap.objs.size + 1 + 1), o2) :: (44, tabObj p44) :: (37, tabObj p37) :: (ros.map coObj ++ rdsObjs w0.params rs') ∧
          RdsOk PySem.Challenge.rw_pg0172_01.row.prog w0 (1 + j) (fun _ => code) rs' [0, 1] ∧ RdsApart w0.params rs' base ∧ rs'.map (fun r => Value.ref r.x) = [.ref xM, .ref xD])) rfl F2 N2 hrng (rng_small (by omega)) (rng_size _) ?h0_s41 ?turn_s41 ?done_s41
      case h0_s41 =>
        refine' ⟨rs, _, _, _, _, _, ?ha_s41, rfl, hrs, hap, hrx⟩
        case ha_s41 => exact M6_self m8 [Str.ofString "j", Str.ofString "due", Str.ofString "words", Str.ofString "reader", Str.ofString "told"]
      case done_s41 =>
        rintro h' tk' m' news' F' N' ⟨rs', w1, w2, w3, w4, w5, rfl, rfl, hrs', hap', hrx'⟩
        k_steps
        refine' TurnEnd.intro ?tF_s41 ?tN_s41 ?tn_s41 ?tJ_s41
        case tF_s41 => assumption
        case tJ_s41 => exact hJ1 _ _ ⟨M6.off qR8 rfl, M6.off qS8 rfl, M6.off qN8 rfl, M6.off qW8 rfl, rfl⟩
        case tN_s41 => exact News.sub N' (fun p hp => List.mem_append_left (as := (I, it) :: (RL, LCg.lst (ros.map coRef)) :: (NL, W.listOf nvs.toArray ep) :: (R, W.listOf rvs.toArray epr) :: ((s1.heap.objs.size + 1 + 1), o2) :: (44, tabObj p44) :: (37, tabObj p37) :: ros.map coObj) (rdsObjs w0.params rs') hp)
        case tn_s41 => exact hne
      case turn_s41 =>
        rintro I2 j tj m₁ news₁ it2 h tk3 hj ⟨rs', w1, w2, w3, w4, w5, rfl, rfl, hrs', hap', hrx'⟩ hne2 F₁ N₁
        clear qR8
        replace F₁ : Fr (ghostOf s1.heap [(48, 44), (41, 37)]) s1.heap.objs.size h _ := Fr.upd F₁
        rw [Int.zero_add] at F₁
        refine forGen fun J2 Q2 hJ2 hQ2 => ?_
        replace N₁ : News (ghostOf s1.heap [(48, 44), (41, 37)]) s1.heap.objs.size h _ := N₁
        have hjK : ny[j]? = some (ny.getD j 0) := by rw [List.getD_eq_getElem?_getD, List.getElem?_eq_getElem hj]; rfl
        obtain ⟨c, hci, hcI⟩ := hro.get hjK
        have hcr : (ros.map coRef)[j]? = some (Value.ref c.1) := by rw [List.getElem?_map, hci]; rfl
        have hcmem : (c.1, W.listOf c.2.1.toArray c.2.2) ∈ ros.map coObj := List.mem_map.mpr ⟨c, List.mem_of_getElem? hci, rfl⟩
        have hd9 := hcd (ny.getD j 0)
        have hwl9 := hwl (ny.getD j 0)
        have hwm9 := hwm (ny.getD j 0)
        obtain ⟨wr, ewr⟩ : ∃ wr, wr = wf (ny.getD j 0) := ⟨_, rfl⟩
        rw [← ewr] at hcI hd9 hwl9 hwm9
        have hpk : sz ^ ((k : Int)).toNat ≠ 0 := by
          rw [Int.toNat_natCast]
          exact Int.pow_ne_zero (by omega)
        obtain ⟨rt, ert⟩ : ∃ rt, rt = rdsObjs w0.params rs' := ⟨_, rfl⟩
        rw [← ert] at N₁
        refine' split_tail (T := ∀ (h2 : Heap) (tk td LL WL : Nat) (wys : List Value), StrsAre wys (wr.map wd) →
            RdsApart w0.params rs' ((LL, W.listOf [Value.ref xM, Value.ref xD].toArray 0) :: (WL, LCg.lst wys) :: (I2, it2) :: base) →
            Fr (ghostOf s1.heap [(48, 44), (41, 37)]) s1.heap.objs.size h2 (M6 m8 [(Str.ofString "j", some (.int (j : Int) tj)), (Str.ofString "due", some (.int (b01 (decide (code <+: wr))) td)), (Str.ofString "words", some (.ref WL)), (Str.ofString "reader", w4), (Str.ofString "told", w5)]) →
            News (ghostOf s1.heap [(48, 44), (41, 37)]) s1.heap.objs.size h2 ((LL, W.listOf [Value.ref xM, Value.ref xD].toArray 0) :: (WL, LCg.lst wys) :: (I2, it2) :: (I, it) :: (RL, LCg.lst (ros.map coRef)) :: (NL, W.listOf nvs.toArray ep) :: (R, W.listOf rvs.toArray epr) :: ((s1.heap.objs.size + 1 + 1), o2) :: (44, tabObj p44) :: (37, tabObj p37) :: (ros.map coObj ++ rt)) → wpAny _ _ (pyIter (.ref LL)) _ _ { s1 with heap := h2, toks := tk }) ?SBm_s41 ?SBt_s41
        case SBm_s41 =>
         intro hT
         have hst := StopIf.yes
         k_steps
         unfold Stop
         refine joinInt (b01 (decide (code <+: wr))) ?_ ?_
         · rename StopIf => hst9
           clear hst9
           k_steps
           · exact ⟨_, _, intE (due_yes hd9 (by assumption)), rfl⟩
           · exact ⟨_, _, intE (due_no hd9 (by assumption)), rfl⟩
         · intro t4 tk4
           rename StopIf => hst8
           clear hst8
           k_steps
           ((try unfold Stop); k_dflt (refine LCg.Assign_ListComp_U (F₀ := by k_asm) (by rfl) (by with_unfolding_all rfl) (by with_unfolding_all rfl) (by decide) (by rfl) (by decide) (by rfl) (by rfl) (by rfl) ?_))
           k_steps
           unfold Stop
           rename News _ _ _ _ => N3
           rename Fr _ _ _ _ => F3
           obtain ⟨n3, en3⟩ := capN2 N3
           refine' LCg.CompSrc.ledger (its := c.2.1.toArray) (k := c.2.2) rfl F3 N3 ?hm_s41 ?hsz_s41 ?_
           case hm_s41 => (repeat (first | exact List.mem_append_left _ hcmem | refine List.Mem.tail _ ?_))
           case hsz_s41 => exact vsz hcI (by omega)
           intro g
           refine compInv (J := fun j yc nw => Stop (nw = n3 ∧ StrsAre yc ((wr.take j).map wd))) ?tu_s41 ?fi_s41 _ 0 [] _ (Nat.zero_add _) ⟨en3, .nil⟩
           case tu_s41 =>
             rintro j yc nw v I2 oI C oC Dc m₂ h4 tk4 E' hj ⟨rfl, hyc⟩ hv hC hx F4 N4 off ne
             obtain ⟨t5, hlt5, rfl⟩ := ints_at hcI (by simpa using hv)
             have hjt : wr.take (j + 1) = wr.take j ++ [wr.getD j 0] := by rw [List.take_add_one, List.getD_eq_getElem?_getD, List.getElem?_eq_getElem hlt5]; rfl
             obtain ⟨hb3, hb4⟩ := hwm9 (wr.getD j 0) (by rw [List.getD_eq_getElem?_getD, List.getElem?_eq_getElem hlt5]; exact List.getElem_mem hlt5)
             generalize hyv : List.getD wr j (0 : Int) = yv at *
             subst en3
             k_steps
             unfold Stop
             refine' compEndAll ?cF_s41 ?cN_s41 ?cO_s41 ?cH_s41 ?_
             case cF_s41 => k_asm
             case cN_s41 => exact N4
             case cO_s41 => exact off
             case cH_s41 => exact Or.inr ⟨W.listOf c.2.1.toArray c.2.2, by (repeat (first | exact List.mem_append_left _ hcmem | refine List.Mem.tail _ ?_)), rfl, _, rfl⟩
             refine ⟨rfl, ?_⟩
             rw [hjt, List.map_append]
             exact strsAre_append hyc (.cons _ _ .nil)
           case fi_s41 =>
             rintro yc nw ⟨rfl, hyc⟩
             subst en3
             have eL : c.2.1.toArray.size = wr.length := by rw [List.size_toArray, hcI.length]
             rw [eL, List.take_length] at hyc
             unfold LCg.FinA
             intro WL h5 tk5 F5 N5 o5
             replace F5 := Fr.upd F5
             have o6 := off1_mem o5
             clear o5
             k_steps
             unfold Stop
             rename (∀ p : Addr × Obj, p ∈ _ → p.1 < _) => lLL
             refine' hT _ _ _ _ WL yc hyc ?gA_s41 ?gF_s41 ?gN_s41
             case gF_s41 => assumption
             case gN_s41 => assumption
             case gA_s41 =>
               have hI2 : ∀ p ∈ rdsObjs w0.params rs', @Ne Nat p.1 I2 := fun p hp => hne2 p (.tail _ (.tail _ (.tail _ (.tail _ (.tail _ (.tail _ (.tail _ (List.mem_append_right _ hp))))))))
               have hWL : ∀ p ∈ rdsObjs w0.params rs', @Ne Nat p.1 WL := fun p hp => o6 p (by rw [← ert] at hp; exact .tail _ (.tail _ (.tail _ (.tail _ (.tail _ (.tail _ (.tail _ (.tail _ (List.mem_append_right _ hp)))))))))
               have hLL : ∀ p ∈ rdsObjs w0.params rs', p.1 < _ := fun p hp => lLL p (by rw [← ert] at hp; exact .tail _ (.tail _ (.tail _ (.tail _ (.tail _ (.tail _ (.tail _ (.tail _ (.tail _ (List.mem_append_right _ hp))))))))))
               exact RdsApart.cons (RdsApart.cons (RdsApart.cons hap' hI2) hWL) fun p hp => Nat.ne_of_lt (hLL p hp)

        case SBt_s41 =>
          clear F₁ N₁ F2 N2 hrng hpk
          w_top off
          rename World => w0
          intro h2 tk td LL WL wys hwy hap3 F2 N2
          rw [ert] at N2
          rw [ebase] at hap3
          clear hcd hd9 hdue2
          have hI2n : ∀ p ∈ rdsObjs w0.params rs', @Ne Nat p.1 I2 := fun p hp => hne2 p (.tail _ (.tail _ (.tail _ (.tail _ (.tail _ (.tail _ (.tail _ (List.mem_append_right _ hp))))))))
          have hbn : ∀ p ∈ (I, it) :: (RL, LCg.lst (ros.map coRef)) :: (NL, W.listOf nvs.toArray ep) :: (R, W.listOf rvs.toArray epr) :: ((s1.heap.objs.size + 1 + 1), o2) :: (44, tabObj p44) :: (37, tabObj p37) :: ros.map coObj, @Ne Nat p.1 I2 := fun p hp => hne2 p (List.mem_append_left (as := (I, it) :: (RL, LCg.lst (ros.map coRef)) :: (NL, W.listOf nvs.toArray ep) :: (R, W.listOf rvs.toArray epr) :: ((s1.heap.objs.size + 1 + 1), o2) :: (44, tabObj p44) :: (37, tabObj p37) :: ros.map coObj) (rdsObjs w0.params rs') hp)
          refine' iterL (J := fun q m' n' => Stop (∃ (rsA rsB : List Rd) (u1 u2 : Option Value), m' = M6 m8 [(Str.ofString "j", some (.int (j : Int) tj)), (Str.ofString "due", some (.int (b01 (decide (code <+: wr))) td)), (Str.ofString "words", some (.ref WL)), (Str.ofString "reader", u1), (Str.ofString "told", u2)] ∧
              n' = (LL, W.listOf [Value.ref xM, Value.ref xD].toArray 0) :: (WL, LCg.lst wys) :: (I2, it2) :: (I, it) :: (RL, LCg.lst (ros.map coRef)) :: (NL, W.listOf nvs.toArray ep) :: (R, W.listOf rvs.toArray epr) :: ((s1.heap.objs.size + 1 + 1), o2) :: (44, tabObj p44) :: (37, tabObj p37) :: (ros.map coObj ++ rdsObjs w0.params (rsA ++ rsB)) ∧
              RdsOk PySem.Challenge.rw_pg0172_01.row.prog w0 (1 + j + 1) (fun _ => code) rsA (([0, 1] : List Int).take q) ∧ RdsOk PySem.Challenge.rw_pg0172_01.row.prog w0 (1 + j) (fun _ => code) rsB (([0, 1] : List Int).drop q) ∧
              RdsApart w0.params (rsA ++ rsB) ((LL, W.listOf [Value.ref xM, Value.ref xD].toArray 0) :: (WL, LCg.lst wys) :: (I2, it2) :: (I, it) :: (RL, LCg.lst (ros.map coRef)) :: (NL, W.listOf nvs.toArray ep) :: (R, W.listOf rvs.toArray epr) :: ((s1.heap.objs.size + 1 + 1), o2) :: (44, tabObj p44) :: (37, tabObj p37) :: ros.map coObj) ∧
              (∀ p ∈ rdsObjs w0.params (rsA ++ rsB), @Ne Nat p.1 I2) ∧ (rsA ++ rsB).map (fun r => Value.ref r.x) = [.ref xM, .ref xD])) (vs := [Value.ref xM, Value.ref xD]) (lo := W.listOf [Value.ref xM, Value.ref xD].toArray 0) rfl F2 N2 (.head _) rfl rfl ?h0_s42 ?hJ_s42 ?turn_s42 ?done_s42
          case h0_s42 => exact ⟨[], rs', _, _, rfl, rfl, trivial, hrs', hap3, hI2n, hrx'⟩
          case hJ_s42 =>
            rintro q m' n' ⟨rsA, rsB, u1, u2, rfl, rfl, _⟩
            exact .head _
          case done_s42 =>
            rintro h' tk' m' news' F' N' ⟨rsA, rsB, u1, u2, rfl, rfl, hA, hB, hap4, hIn4, hrx4⟩
            replace hA : RdsOk PySem.Challenge.rw_pg0172_01.row.prog w0 (1 + j + 1) (fun _ => code) rsA [0, 1] := hA
            replace hB : RdsOk PySem.Challenge.rw_pg0172_01.row.prog w0 (1 + j) (fun _ => code) rsB [] := hB
            have hB0 : rsB = [] := by
              cases rsB with
              | nil => rfl
              | cons r rs => exact hB.elim
            subst hB0
            rw [List.append_nil] at N' hap4 hIn4 hrx4
            k_steps
            refine' TurnEnd.intro ?uF_s42 ?uN_s42 ?un_s42 ?uJ_s42
            case uF_s42 => assumption
            case uJ_s42 =>
              refine' hJ2 _ _ ⟨rsA, _, _, _, _, _, ?va_s42, rfl, hA, ?vb_s42, hrx4⟩
              case va_s42 => rfl
              case vb_s42 =>
                rw [ebase]
                exact hap4.sub fun p hp => .tail _ (.tail _ (.tail _ hp))
            case uN_s42 => exact News.sub N' fun p hp => .tail _ (.tail _ hp)
            case un_s42 =>
              intro p hp
              rcases List.mem_append.mp (show p ∈ ((I, it) :: (RL, LCg.lst (ros.map coRef)) :: (NL, W.listOf nvs.toArray ep) :: (R, W.listOf rvs.toArray epr) :: ((s1.heap.objs.size + 1 + 1), o2) :: (44, tabObj p44) :: (37, tabObj p37) :: ros.map coObj) ++ rdsObjs w0.params rsA from hp) with hp | hp
              · exact hbn p hp
              · exact hIn4 p hp
          case turn_s42 =>
            rintro I3 q v m₁ news₁ it3 h tk3 hv ⟨rsA, rsB, u1, u2, rfl, rfl, hA, hB, hap4, hIn4, hrx4⟩ hit hne3 F₁ N₁
            have hq : q < 2 := by
              rcases Nat.lt_or_ge q 2 with h | h
              · exact h
              · rw [List.getElem?_eq_none (by simpa using h)] at hv; cases hv
            have htq : ([0, 1] : List Int).take (q + 1) = ([0, 1] : List Int).take q ++ [([0, 1] : List Int).getD q 0] := by
              rw [List.take_add_one, List.getD_eq_getElem?_getD, List.getElem?_eq_getElem (by simpa using hq)]; rfl
            have hdq : ([0, 1] : List Int).drop q = ([0, 1] : List Int).getD q 0 :: ([0, 1] : List Int).drop (q + 1) := by
              rw [List.drop_eq_getElem_cons (by simpa using hq), List.getD_eq_getElem?_getD, List.getElem?_eq_getElem (by simpa using hq)]; rfl
            rw [hdq] at hB
            obtain ⟨r, rsB', rfl, hr, hB'⟩ := hB.uncons
            obtain ⟨hOwn, hMid⟩ := hap4.mid
            have hAl := hA.length
            rw [List.length_take, Nat.min_eq_left (by simp; omega)] at hAl
            have hrx5 : v = Value.ref r.x := by
              rw [← hrx4, List.getElem?_map, List.getElem?_append_right (by omega), hAl, Nat.sub_self] at hv
              exact (Option.some.inj hv).symm
            subst hrx5
            clear hv
            generalize ([0, 1] : List Int).getD q 0 = nq at *
            replace N₁ : News (ghostOf s1.heap [(48, 44), (41, 37)]) s1.heap.objs.size h ((r.ig, r.io) :: (r.x, instObj 121 r.dx) :: (r.dx, rdDict w0.params r.t1 r.t2 r.t3 r.S r.l r.ig r.n) :: (r.S, r.so) :: (r.l, r.lo) :: (I3, it3) :: (LL, W.listOf [Value.ref xM, Value.ref xD].toArray 0) :: (WL, LCg.lst wys) :: (I2, it2) :: (I, it) :: (RL, LCg.lst (ros.map coRef)) :: (NL, W.listOf nvs.toArray ep) :: (R, W.listOf rvs.toArray epr) :: ((s1.heap.objs.size + 1 + 1), o2) :: (44, tabObj p44) :: (37, tabObj p37) :: (ros.map coObj ++ (rdsObjs w0.params rsA ++ rdsObjs w0.params rsB'))) := News.sub N₁ (rds_mid (base := (I3, it3) :: (LL, W.listOf [Value.ref xM, Value.ref xD].toArray 0) :: (WL, LCg.lst wys) :: (I2, it2) :: (I, it) :: (RL, LCg.lst (ros.map coRef)) :: (NL, W.listOf nvs.toArray ep) :: (R, W.listOf rvs.toArray epr) :: ((s1.heap.objs.size + 1 + 1), o2) :: (44, tabObj p44) :: (37, tabObj p37) :: ros.map coObj))
            replace F₁ : Fr (ghostOf s1.heap [(48, 44), (41, 37)]) s1.heap.objs.size h _ := Fr.upd F₁
            refine forGen fun J3 Q3 hJ3 hQ3 => ?_
            have hw5 : wr.length ≤ 40 := by omega
            have d0 : ((wr.map wd).map (·.length)).sum + (wr.map wd).length * 64 ≤ 16777216 := by have := wds_len hwm9; rw [List.length_map]; omega
            have j1 : (PySem.Txt.join (Str.ofString ".") (wr.map wd)).length ≤ 100000 := by have := join_len hwm9 lenDot; omega
            have j2 : (PySem.Txt.join (Str.ofString "/") (wr.map wd)).length ≤ 100000 := by have := join_len hwm9 lenSl; omega
            have hapN : ∀ p ∈ (I3, it3) :: (LL, W.listOf [Value.ref xM, Value.ref xD].toArray 0) :: (WL, LCg.lst wys) :: (I2, it2) :: (I, it) :: (RL, LCg.lst (ros.map coRef)) :: (NL, W.listOf nvs.toArray ep) :: (R, W.listOf rvs.toArray epr) :: ((s1.heap.objs.size + 1 + 1), o2) :: (44, tabObj p44) :: (37, tabObj p37) :: (ros.map coObj ++ (rdsObjs w0.params rsA ++ rdsObjs w0.params rsB')), @Ne Nat p.1 r.ig := by
              intro p hp
              rcases List.mem_cons.mp hp with h | hp
              · rw [h]
                exact Ne.symm (hne3 (r.ig, r.io) (List.mem_append_right ((LL, W.listOf [Value.ref xM, Value.ref xD].toArray 0) :: (WL, LCg.lst wys) :: (I2, it2) :: (I, it) :: (RL, LCg.lst (ros.map coRef)) :: (NL, W.listOf nvs.toArray ep) :: (R, W.listOf rvs.toArray epr) :: ((s1.heap.objs.size + 1 + 1), o2) :: (44, tabObj p44) :: (37, tabObj p37) :: ros.map coObj) (List.mem_flatMap.mpr ⟨r, List.mem_append_right _ (.head _), .head _⟩)))
              · exact hMid p hp
            k_steps
            unfold Stop
            rename News _ _ _ _ => N6
            rename Fr _ _ _ (M6 _ _) => F6
            refine' c_names1 (r := r) (code := code) (l := wr) (n := nq) (K := 1 + j) (news := (I3, it3) :: (LL, W.listOf [Value.ref xM, Value.ref xD].toArray 0) :: (WL, LCg.lst wys) :: (I2, it2) :: (I, it) :: (RL, LCg.lst (ros.map coRef)) :: (NL, W.listOf nvs.toArray ep) :: (R, W.listOf rvs.toArray epr) :: ((s1.heap.objs.size + 1 + 1), o2) :: (44, tabObj p44) :: (37, tabObj p37) :: (ros.map coObj ++ (rdsObjs w0.params rsA ++ rdsObjs w0.params rsB'))) ?cB_s42 ?cF_s42 ?cX_s42 ?cN_s42 ?cT_s42 ?chk_s42 hr ?cK_s42 hOwn hapN hcne hcm ?cl_s42 hwm9 hw5 ?chd_s42 ?chu_s42 ?_
            case cN_s42 => exact N6
            case cF_s42 => exact F6
            case cB_s42 => k_asm
            case cX_s42 => k_asm
            case cT_s42 => k_asm
            case chk_s42 => rfl
            case cK_s42 => omega
            case cl_s42 => omega
            case chd_s42 => ktr_room
            case chu_s42 => ktr_units
            intro h6 tk6 t6 io6 F7 N7 hok7 hhas7
            replace N7 : News (ghostOf s1.heap [(48, 44), (41, 37)]) s1.heap.objs.size h6 ((r.ig, io6) :: (r.x, instObj 121 r.dx) :: (r.dx, rdDict w0.params r.t1 r.t2 r.t3 r.S r.l r.ig r.n) :: (r.S, r.so) :: (r.l, r.lo) :: (I3, it3) :: (LL, W.listOf [Value.ref xM, Value.ref xD].toArray 0) :: (WL, LCg.lst wys) :: (I2, it2) :: (I, it) :: (RL, LCg.lst (ros.map coRef)) :: (NL, W.listOf nvs.toArray ep) :: (R, W.listOf rvs.toArray epr) :: ((s1.heap.objs.size + 1 + 1), o2) :: (44, tabObj p44) :: (37, tabObj p37) :: (ros.map coObj ++ (rdsObjs w0.params rsA ++ rdsObjs w0.params rsB'))) := N7
            k_steps
            · rename (b01 _ ≠ b01 _) => hbad
              exact absurd rfl hbad
            · unfold Stop
              rename News _ _ _ _ => N6
              rename Fr _ _ _ (M6 _ _) => F6
              refine' c_names2 (r := { r with io := io6 }) (code := code) (l := wr) (news := (I3, it3) :: (LL, W.listOf [Value.ref xM, Value.ref xD].toArray 0) :: (WL, LCg.lst wys) :: (I2, it2) :: (I, it) :: (RL, LCg.lst (ros.map coRef)) :: (NL, W.listOf nvs.toArray ep) :: (R, W.listOf rvs.toArray epr) :: ((s1.heap.objs.size + 1 + 1), o2) :: (44, tabObj p44) :: (37, tabObj p37) :: (ros.map coObj ++ (rdsObjs w0.params rsA ++ rdsObjs w0.params rsB'))) ?eB_s42 ?eF_s42 ?eX_s42 ?eN_s42 ?eT_s42 ?ehk_s42 hok7.2.1 hhas7 hOwn hapN ?ehd_s42 ?ehu_s42 ?_
              case eN_s42 => exact N6
              case eF_s42 => exact F6
              case eB_s42 => k_asm
              case eX_s42 => k_asm
              case eT_s42 => k_asm
              case ehk_s42 => rfl
              case ehd_s42 => ktr_room
              case ehu_s42 => ktr_units
              intro h8 tk8 t8 F8 N8
              k_steps
              · rename (b01 _ ≠ b01 _) => hbad
                exact absurd rfl hbad
              · have eAB : (rsA ++ [({ r with io := io6 } : Rd)]) ++ rsB' = rsA ++ { r with io := io6 } :: rsB' := by simp
                refine' TurnEnd.intro ?tF_s42 ?tN_s42 ?tn_s42 ?tJ_s42
                case tF_s42 => assumption
                case tJ_s42 =>
                  refine' hJ3 _ _ ⟨rsA ++ [{ r with io := io6 }], rsB', _, _, ?ja_s42, rfl, ?jb_s42, hB', ?jc_s42, ?jd_s42, ?je_s42⟩
                  case ja_s42 => rfl
                  case jb_s42 =>
                    rw [htq]
                    exact RdsOk.snoc hok7 hA
                  case jc_s42 => rw [eAB]; exact hap4.put
                  case jd_s42 => rw [eAB]; exact rds_put_ne hIn4
                  case je_s42 => rw [eAB, ← hrx4]; simp
                case tN_s42 =>
                  rw [eAB]
                  rename News _ _ _ _ => N9
                  exact News.sub N9 (rds_mid2 (base := (I3, it3) :: (LL, W.listOf [Value.ref xM, Value.ref xD].toArray 0) :: (WL, LCg.lst wys) :: (I2, it2) :: (I, it) :: (RL, LCg.lst (ros.map coRef)) :: (NL, W.listOf nvs.toArray ep) :: (R, W.listOf rvs.toArray epr) :: ((s1.heap.objs.size + 1 + 1), o2) :: (44, tabObj p44) :: (37, tabObj p37) :: ros.map coObj))
                case tn_s42 =>
                  rw [eAB]
                  intro p hp
                  rcases List.mem_append.mp (show p ∈ ((LL, W.listOf [Value.ref xM, Value.ref xD].toArray 0) :: (WL, LCg.lst wys) :: (I2, it2) :: (I, it) :: (RL, LCg.lst (ros.map coRef)) :: (NL, W.listOf nvs.toArray ep) :: (R, W.listOf rvs.toArray epr) :: ((s1.heap.objs.size + 1 + 1), o2) :: (44, tabObj p44) :: (37, tabObj p37) :: ros.map coObj) ++ rdsObjs w0.params (rsA ++ { r with io := io6 } :: rsB') from hp) with hp | hp
                  · exact hne3 p (show p ∈ ((LL, W.listOf [Value.ref xM, Value.ref xD].toArray 0) :: (WL, LCg.lst wys) :: (I2, it2) :: (I, it) :: (RL, LCg.lst (ros.map coRef)) :: (NL, W.listOf nvs.toArray ep) :: (R, W.listOf rvs.toArray epr) :: ((s1.heap.objs.size + 1 + 1), o2) :: (44, tabObj p44) :: (37, tabObj p37) :: ros.map coObj) ++ rdsObjs w0.params (rsA ++ r :: rsB') from List.mem_append_left _ hp)
                  · exact rds_put_ne (fun p hp => hne3 p (show p ∈ ((LL, W.listOf [Value.ref xM, Value.ref xD].toArray 0) :: (WL, LCg.lst wys) :: (I2, it2) :: (I, it) :: (RL, LCg.lst (ros.map coRef)) :: (NL, W.listOf nvs.toArray ep) :: (R, W.listOf rvs.toArray epr) :: ((s1.heap.objs.size + 1 + 1), o2) :: (44, tabObj p44) :: (37, tabObj p37) :: ros.map coObj) ++ rdsObjs w0.params (rsA ++ r :: rsB') from List.mem_append_right _ hp)) p hp
theorem law01 : PySem.Challenge.rw_pg0172_01.Holds := lawA.2 (lawB.2 lawC)
end
end Mine
end
theorem PySem.Challenge.cw_pg0172_01_holds : PySem.Challenge.rw_pg0172_01.Holds :=
  Mine.law01
