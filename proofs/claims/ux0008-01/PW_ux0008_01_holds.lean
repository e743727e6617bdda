import PyProof.Rows.All
import Wide.All
import OpenK.AllK
import Wide.FinOn
import PySem.Challenge.RW_ux0008_01
open PySem PySem.W PyProof.Rows
set_option Elab.async false
set_option maxRecDepth 100000
set_option maxHeartbeats 8000000

namespace Mine
section PartHD
open PySem PySem.W PyProof.Rows
open_top hd for PySem.Challenge.rw_ux0008_01
end PartHD
end Mine

namespace Mine
section PartB2
open PySem PySem.W PySem.Calls PyProof.Rows
abbrev Ar (d u : Nat) (fr : Option (List Env)) (gd : Option (List Code)) : Around := ⟨none, d, fr, gd, u⟩
abbrev Old (h h' : Heap) : Prop := ∀ b o, h.get? b = some o → h'.get? b = some o
structure Same (s s' : Shared) : Prop where
  old : ∀ b o, s.heap.get? b = some o → s'.heap.get? b = some o
  os : s'.os = s.os
  gens : s'.gens = s.gens
  toks : s.toks ≤ s'.toks
theorem Same.refl (s : Shared) : Same s s := ⟨fun _ _ e => e, rfl, rfl, Nat.le_refl _⟩
theorem Same.trans {s s' s'' : Shared} (a : Same s s') (b : Same s' s'') : Same s s'' := ⟨fun c o e => b.old c o (a.old c o e), b.os.trans a.os, b.gens.trans a.gens, Nat.le_trans a.toks b.toks⟩
abbrev NoE : Value → Shared → Prop := fun _ _ => False

theorem Fr.old {h₀ h h' : Heap} {L : Addr} {m : Str → Option Value} (F : Fr h₀ L h m) (k : Old h h') : Fr h₀ L h' m :=
  ⟨F.ns.at' fun o e => k _ o e, fun b o e => k b o (F.keep b o e), F.above⟩
theorem News.old {h₀ h h' : Heap} {L : Addr} {news : List (Addr × Obj)} (N : News h₀ L h news) (k : Old h h') : News h₀ L h' news :=
  fun p hp => ⟨k _ _ (N p hp).1, (N p hp).2⟩
/-- a new object of a call's joins the ledger -/
theorem News.join {h₀ h h' : Heap} {L : Addr} {m : Str → Option Value} {news : List (Addr × Obj)} {D : Addr} {o : Obj} (N : News h₀ L h news) (F : Fr h₀ L h m) (k : Old h h') (hD : h.get? D = none) (e : h'.get? D = some o) : News h₀ L h' ((D, o) :: news) := by
  intro p hp
  rcases List.mem_cons.mp hp with rfl | hp
  · refine ⟨e, ?_, ?_⟩
    · rintro rfl
      obtain ⟨oL, _, _, hL, _⟩ := F.ns
      rw [hL] at hD; cases hD
    · cases hb : h₀.get? D with
      | none => rfl
      | some o' => rw [F.keep _ _ hb] at hD; cases hD
  · exact News.old N k p hp

section
variable {prog : Program} {w : World} {A : Around} {E : Value → Shared → Prop} {s : Shared}

theorem is_strT {p q : Str} {t u : Tok} {Q : Value → Shared → Prop} (ht : t ≠ 0) (hu : u ≠ 0) (htu : t ≠ u) (hb : NoneBooked s.heap)
    (h : ∀ r : Bool, (r = true → p = q) → Q (.bool r) s) : wpAny (model prog w) A (compareOp .Is (.str p t) (.str q u)) Q E s := by
  show wpAny _ A (do return .bool (← isSame (.str p t) (.str q u))) Q E s
  refine wpAny_bind ?_
  show wpAny _ A (isSame.created (p == q) t u) _ E s
  unfold isSame.created
  have e0 : (t == 0 || u == 0) = false := by simp [ht, hu]
  have e1 : (t == u) = false := by simp [htu]
  rw [e0, e1]
  simp only [Bool.false_eq_true, if_false]
  refine wpAny_ite ?_
  split
  · exact wpAny_pure (wpAny_pure (h false (by intro e; cases e)))
  · rename_i hpq
    have hpq' : p = q := by
      cases hb' : (p == q) with
      | true => exact eq_of_beq hb'
      | false => rw [hb'] at hpq; simp at hpq
    refine wpAny_bind (wpAny_sharingNotTold_none hb ?_)
    first | rw [if_neg Bool.false_ne_true] | simp only [Bool.false_eq_true, if_false]
    refine wpAny_bind (wpAny_sharingNotTold_none hb ?_)
    first | rw [if_neg Bool.false_ne_true] | simp only [Bool.false_eq_true, if_false]
    exact wpAny_bind (wpAny_rule (wpAny_bind (wpAny_askSetting (wpAny_pure (wpAny_pure (h _ (fun _ => hpq')))))))

/-- a for loop, by its turns -/
theorem forG {R : Result → Shared → Prop} {target : Expr} {it : Value} {body orelse : List Stmt} {env : Env} {n : Nat} (Inv : Nat → Shared → Prop)
    (turn : ∀ i s, i < n → Inv i s → wpAny (model prog w) A (pyNext it) (fun r s₁ => ∃ v, r = some v ∧
      wpAny (model prog w) A (letOwnedTupleGo target it v) (fun _ s₂ => wpAny (model prog w) A (assign target env v) (fun _ s₃ => wpAny (model prog w) A (execs body env) (fun f s₄ => match f with
        | .next | .cont => Inv (i + 1) s₄
        | .brk => R (.ok .next) s₄
        | .ret v => R (.ok (.ret v)) s₄) NoE s₃) NoE s₂) NoE s₁) NoE s)
    (fin : ∀ s, Inv n s → wpAny (model prog w) A (pyNext it) (fun r s₁ => r = none ∧ wpAny (model prog w) A (execs orelse env) (fun f s' => R (.ok f) s') NoE s₁) NoE s)
    (h0 : Inv 0 s) : codeAny (model prog w) A (.forLoop target it body orelse env) R s := by
  refine codeAny_forLoop_any (fun k s' => ∃ i, i ≤ n ∧ Inv i s' ∧ k = n - i) ?_ n ⟨0, Nat.zero_le _, h0, rfl⟩
  rintro k s' ⟨i, hi, hI, rfl⟩
  by_cases hlt : i < n
  · refine wpAny_mono (turn i s' hlt hI) (fun r s₁ h₁ => ?_) fun _ _ x => x.elim
    obtain ⟨v, rfl, h₁⟩ := h₁
    refine wpAny_mono h₁ (fun _ s₂ h₂ => wpAny_mono h₂ (fun _ s₃ h₃ => wpAny_mono h₃ (fun f s₄ h₄ => ?_) fun _ _ x => x.elim) fun _ _ x => x.elim) fun _ _ x => x.elim
    cases f with
    | next => exact ⟨n - (i + 1), by omega, i + 1, hlt, h₄, rfl⟩
    | cont => exact ⟨n - (i + 1), by omega, i + 1, hlt, h₄, rfl⟩
    | brk => exact h₄
    | ret v => exact h₄
  · obtain rfl : i = n := by omega
    refine wpAny_mono (fin s' hI) (fun r s₁ h₁ => ?_) fun _ _ x => x.elim
    obtain ⟨rfl, h₁⟩ := h₁
    exact wpAny_mono h₁ (fun _ _ x => x) fun _ _ x => x.elim

theorem forS {target iter : Expr} {body orelse : List Stmt} {pos : Pos} {env : Env} {Q : Flow → Shared → Prop}
    (h : wpAny (model prog w) A (eval iter env) (fun x s₁ => wpAny (model prog w) A (pyIter x) (fun it s₂ =>
      codeAny (model prog w) A (.forLoop target it body orelse env) (fun r s' => match r with | .ok f => Q f s' | .error _ => False) s₂) NoE s₁) NoE s)
    (hs : ∀ x, foldedSetIterable iter env x = pure x := by intro _; rfl) :
    wpAny (model prog w) A (exec (.For target iter body orelse pos) env) Q E s := by
  refine wpAny_mono (wpAny_For (Q := Q) (E := NoE) (wpAny_mono h (fun x s₁ h₁ => wpAny_mono h₁ (fun it s₂ h₂ => codeAny_mono h₂ (fun r s' x => ?_)) fun _ _ x => x) fun _ _ x => x) hs) (fun _ _ x => x) fun _ _ x => x.elim
  cases r with
  | ok f => exact x
  | error e => exact x.elim
end
end PartB2
end Mine

namespace Mine
section PartB5
open PySem PySem.W PySem.Calls PyProof.Rows
abbrev Own := List (Addr × Obj)
def Holds (own : Own) (h : Heap) : Prop := ∀ p ∈ own, h.get? p.1 = some p.2
/-- the ledger and an iterator's objects lie apart -/
def Apart (news own : Own) : Prop := ∀ p ∈ news, ∀ q ∈ own, p.1 ≠ q.1
structure Moves (own own' : Own) (h h' : Heap) : Prop where
  keep : ∀ b o, (∀ p ∈ own, p.1 ≠ b) → h.get? b = some o → h'.get? b = some o
  fresh : ∀ p ∈ own', (∃ q ∈ own, q.1 = p.1) ∨ h.get? p.1 = none

theorem Moves.fr {base h h' : Heap} {L : Addr} {m : Str → Option Value} {own own' : Own} (M : Moves own own' h h') (F : Fr base L h m) (N : News base L h own) : Fr base L h' m := by
  refine ⟨F.ns.at' fun o e => M.keep _ o (fun p hp => (N p hp).2.1) e, fun b o e => M.keep b o (fun p hp => ?_) (F.keep b o e), F.above⟩
  rintro rfl
  rw [(N p hp).2.2] at e; cases e
theorem Moves.news {base h h' : Heap} {L : Addr} {news own own' : Own} (M : Moves own own' h h') (N : News base L h news) (a : Apart news own) : News base L h' news :=
  fun p hp => ⟨M.keep _ _ (fun q hq e => a p hp q hq e.symm) (N p hp).1, (N p hp).2⟩
theorem Moves.own {base h h' : Heap} {L : Addr} {m : Str → Option Value} {own own' : Own} (M : Moves own own' h h') (F : Fr base L h m) (N : News base L h own) (H : Holds own' h') : News base L h' own' := by
  intro p hp
  refine ⟨H p hp, ?_⟩
  rcases M.fresh p hp with ⟨q, hq, e⟩ | e
  · rw [← e]; exact (N q hq).2
  · constructor
    · intro e'
      obtain ⟨oL, _, _, hL, _⟩ := F.ns
      rw [e', hL] at e; cases e
    · cases hb : base.get? p.1 with
      | none => rfl
      | some o' => rw [F.keep _ _ hb] at e; cases e
theorem Moves.apart {base h h' : Heap} {L : Addr} {news own own' : Own} (M : Moves own own' h h') (N : News base L h news) (a : Apart news own) : Apart news own' := by
  intro p hp q hq e
  rcases M.fresh q hq with ⟨r, hr, e'⟩ | e'
  · exact a p hp r hr (e.trans e'.symm)
  · rw [← e, (N p hp).1] at e'; cases e'
theorem news_app {base h : Heap} {L : Addr} {a b : Own} (N : News base L h a) (N' : News base L h b) : News base L h (a ++ b) := fun p hp => (List.mem_append.mp hp).elim (N p) (N' p)
theorem news_l {base h : Heap} {L : Addr} {a b : Own} (N : News base L h (a ++ b)) : News base L h a := fun p hp => N p (List.mem_append_left _ hp)
theorem news_r {base h : Heap} {L : Addr} {a b : Own} (N : News base L h (a ++ b)) : News base L h b := fun p hp => N p (List.mem_append_right _ hp)
theorem news_holds {base h : Heap} {L : Addr} {a : Own} (N : News base L h a) : Holds a h := fun p hp => (N p hp).1

/-- an iterator that gives n items; S: its objects and the generators at each turn; hb: what it leans on; Z: the generators at the end -/
structure ItOk (prog : Program) (w : World) (A : Around) (target : Expr) (it : Value) (hb : Heap) (tk0 : Nat) (n : Nat) (P : Nat → Value → Heap → Prop) (S : Nat → Own → Array GenState → Prop) (Z : Array GenState → Prop) : Prop where
  next : ∀ i own (s : Shared) (Q : Value → Shared → Prop), i < n → tk0 ≤ s.toks → S i own s.gens → Holds own s.heap → Old hb s.heap → s.heap.NoLimit →
    (∀ v own' h' tk G', s.toks ≤ tk → S (i + 1) own' G' → Holds own' h' → Moves own own' s.heap h' → P i v h' → Q v { s with heap := h', gens := G', toks := tk }) →
    wpAny (model prog w) A (pyNext it) (fun r s₁ => ∃ v, r = some v ∧ wpAny (model prog w) A (letOwnedTupleGo target it v) (fun _ s₂ => Q v s₂) NoE s₁) NoE s
  fin : ∀ own (s : Shared) (Q : Shared → Prop), tk0 ≤ s.toks → S n own s.gens → Holds own s.heap → Old hb s.heap → s.heap.NoLimit →
    (∀ h' tk G', s.toks ≤ tk → Z G' → Moves own [] s.heap h' → Q { s with heap := h', gens := G', toks := tk }) →
    wpAny (model prog w) A (pyNext it) (fun r s₁ => r = none ∧ Q s₁) NoE s

section
variable {prog : Program} {w : World} {A : Around} {E : Value → Shared → Prop}

/-- what stands between the turns -/
structure Turn (base : Heap) (L : Addr) (S : Nat → Own → Array GenState → Prop) (J : Nat → (Str → Option Value) → Own → Prop) (os : OsState) (tk0 : Nat) (i : Nat) (s : Shared) : Prop where
  all : ∃ m news own, Fr base L s.heap m ∧ News base L s.heap (news ++ own) ∧ Apart news own ∧ S i own s.gens ∧ J i m news
  os : s.os = os
  tk : tk0 ≤ s.toks

theorem forI {R : Result → Shared → Prop} {target : Expr} {it : Value} {body orelse : List Stmt} {env : Env} {base hb : Heap} {tk0 : Nat} {n : Nat} {P : Nat → Value → Heap → Prop} {S : Nat → Own → Array GenState → Prop} {Z : Array GenState → Prop} {s : Shared}
    {m₀ : Str → Option Value} {news₀ own₀ : Own}
    (I : ItOk prog w A target it hb tk0 n P S Z) (htk0 : tk0 ≤ s.toks) (hbase : base.NoLimit) (hob : Old hb base) (J : Nat → (Str → Option Value) → Own → Prop)
    (F : Fr base env.locals s.heap m₀) (N : News base env.locals s.heap (news₀ ++ own₀)) (ap : Apart news₀ own₀) (hS : S 0 own₀ s.gens) (hJ : J 0 m₀ news₀)
    (step : ∀ i v m news own (s₁ : Shared), i < n → J i m news → P i v s₁.heap → S (i + 1) own s₁.gens → Fr base env.locals s₁.heap m → News base env.locals s₁.heap (news ++ own) → Apart news own → s₁.os = s.os → s.toks ≤ s₁.toks →
      wpAny (model prog w) A (assign target env v) (fun _ s₂ => wpAny (model prog w) A (execs body env) (fun f s₃ => s.toks ≤ s₃.toks → match f with
        | .next | .cont => Turn base env.locals S J s.os s.toks (i + 1) s₃
        | .brk => R (.ok .next) s₃
        | .ret v => R (.ok (.ret v)) s₃) NoE s₂) NoE s₁)
    (done : ∀ m news (s₁ : Shared), J n m news → Z s₁.gens → Fr base env.locals s₁.heap m → News base env.locals s₁.heap news → s₁.os = s.os → s.toks ≤ s₁.toks → wpAny (model prog w) A (execs orelse env) (fun f s' => R (.ok f) s') NoE s₁) :
    codeAny (model prog w) A (.forLoop target it body orelse env) R s := by
  refine forG (n := n) (fun i s₁ => Turn base env.locals S J s.os s.toks i s₁) ?_ ?_ ⟨⟨m₀, news₀, own₀, F, N, ap, hS, hJ⟩, rfl, Nat.le_refl _⟩
  · rintro i s₁ hi ⟨⟨m, news, own, F₁, N₁, a₁, S₁, J₁⟩, hos, htk⟩
    refine I.next i own s₁ _ hi (Nat.le_trans htk0 htk) S₁ (news_holds (news_r N₁)) (fun b o e => F₁.keep b o (hob b o e)) (hbase.keeps F₁.keep) ?_
    intro v own' h' tk G' htk' S' H' M' P'
    refine wpAny_mono (wpAny_toks_of (n := s.toks) (Nat.le_trans htk htk') (step i v m news own' _ hi J₁ P' S' (M'.fr F₁ (news_r N₁)) (news_app (M'.news (news_l N₁) a₁) (M'.own F₁ (news_r N₁) H')) (M'.apart (news_l N₁) a₁) hos (Nat.le_trans htk htk'))) (fun _ s₂ h₂ => ?_) fun _ _ x => x.2
    exact wpAny_mono (wpAny_toks_of h₂.1 h₂.2) (fun f s₃ h₃ => h₃.2 h₃.1) fun _ _ x => x.2
  · rintro s₁ ⟨⟨m, news, own, F₁, N₁, a₁, S₁, J₁⟩, hos, htk⟩
    refine I.fin own s₁ _ (Nat.le_trans htk0 htk) S₁ (news_holds (news_r N₁)) (fun b o e => F₁.keep b o (hob b o e)) (hbase.keeps F₁.keep) ?_
    intro h' tk G' htk' Z' M'
    exact done m news _ J₁ Z' (M'.fr F₁ (news_r N₁)) (M'.news (news_l N₁) a₁) hos (Nat.le_trans htk htk')

def SOf (G : Array GenState) (ads : List Addr) (hb : Heap) (St : Nat → Heap → Prop) (i : Nat) (own : Own) (G' : Array GenState) : Prop :=
  G' = G ∧ own.map (·.1) = ads ∧ ∀ h, Old hb h → Holds own h → St i h
/-- the library's iterators -/
theorem ItOk.ofTurns {target : Expr} {I : Addr} {fp wr ads : List Addr} {hb : Heap} {n : Nat} {P Md : Nat → Value → Heap → Prop} {St : Nat → Heap → Prop} (G : Array GenState) (W : KTurns prog w A target I fp wr n P Md St)
    (hw : ∀ b ∈ wr, b ∈ ads) (hf : ∀ b ∈ fp, b ∈ ads ∨ ∃ o, hb.get? b = some o) (hn : ∀ b ∈ ads, hb.get? b = none) (live : ∀ i h, St i h → ∀ b ∈ ads, ∃ o, h.get? b = some o) :
    ItOk prog w A target (.ref I) hb 0 n P (SOf G ads hb St) (fun G' => G' = G) where
  next := by
    rintro i own s Q hi _ ⟨hG, hads, hSt⟩ H O _ hQ
    have st := hSt _ O H
    refine wpAny_mono (wpAny_toks_of (Nat.le_refl s.toks) (W.item i s (fun r s₁ => ∃ v, r = some v ∧ wpAny (model prog w) A (letOwnedTupleGo target (.ref I) v) (fun _ s₂ => s.toks ≤ s₁.toks → Q v s₂) NoE s₁) NoE hi st fun v h₁ tk hM hk₁ => ⟨v, rfl, W.go i v _ _ _ hM fun h₂ hP hst hk₂ => ?_⟩)) (fun r s₁ h₁ => ?_) fun _ _ x => x.2
    · intro htk
      have keep : ∀ b o, b ∉ wr → s.heap.get? b = some o → h₂.get? b = some o := fun b o hb' e => hk₂ b o hb' (hk₁ b o hb' e)
      have key : ∀ ads : List Addr, (∀ b ∈ ads, ∃ o, h₂.get? b = some o) → ∃ own' : Own, own'.map (·.1) = ads ∧ Holds own' h₂ := by
        intro ads
        induction ads with
        | nil => intro _; exact ⟨[], rfl, fun _ h => nomatch h⟩
        | cons a r ih =>
          intro h
          obtain ⟨o, ho⟩ := h a (.head _)
          obtain ⟨own', e, H'⟩ := ih fun b hb' => h b (.tail _ hb')
          exact ⟨(a, o) :: own', by simp [e], fun p hp => by rcases List.mem_cons.mp hp with rfl | hp; exact ho; exact H' p hp⟩
      obtain ⟨own', hads', H'⟩ := key ads (live _ _ hst)
      have mem' : ∀ b ∈ ads, ∀ o, h₂.get? b = some o → (b, o) ∈ own' := by
        intro b hb' o e
        rw [← hads'] at hb'
        obtain ⟨p, hp, rfl⟩ := List.mem_map.mp hb'
        have := H' p hp
        rw [e] at this
        have e2 : o = p.2 := Option.some.inj this
        subst e2; exact hp
      have oldb : ∀ b o, hb.get? b = some o → h₂.get? b = some o := fun b o e => keep b o (fun hbw => by rw [hn b (hw b hbw)] at e; cases e) (O b o e)
      refine hQ v own' h₂ tk s.gens htk ⟨hG, hads', fun h Oh Hh => W.frame _ _ _ hst fun b hb' o e => ?_⟩ H' ⟨fun b o hb' e => keep b o (fun hbw => ?_) e, fun p hp => .inl ?_⟩ hP
      · rcases hf b hb' with hb' | ⟨o₀, ho₀⟩
        · exact Hh _ (mem' b hb' o e)
        · have := oldb b o₀ ho₀
          rw [e] at this
          rw [Option.some.inj this]
          exact Oh b o₀ ho₀
      · have : b ∈ own.map (·.1) := by rw [hads]; exact hw b hbw
        obtain ⟨p, hp, hpb⟩ := List.mem_map.mp this
        exact hb' p hp hpb
      · have hm : p.1 ∈ own.map (·.1) := by rw [hads, ← hads']; exact List.mem_map_of_mem hp
        obtain ⟨q, hq, e⟩ := List.mem_map.mp hm
        exact ⟨q, hq, e⟩
    · obtain ⟨htk, v, rfl, h₁⟩ := h₁
      exact ⟨v, rfl, wpAny_mono h₁ (fun _ _ x => x htk) fun _ _ x => x⟩
  fin := by
    rintro own s Q _ ⟨hG, hads, hSt⟩ H O _ hQ
    refine wpAny_mono (wpAny_toks_of (Nat.le_refl s.toks) (W.done s (fun r s₁ => s.toks ≤ s₁.toks → r = none ∧ Q s₁) NoE (hSt _ O H) fun h' tk hk => ?_)) (fun r s₁ h₁ => h₁.2 h₁.1) fun _ _ x => x.2
    intro htk
    refine ⟨rfl, hQ h' tk s.gens htk hG ⟨fun b o hb' e => hk b o (fun hbw => ?_) e, fun _ h => nomatch h⟩⟩
    have : b ∈ own.map (·.1) := by rw [hads]; exact hw b hbw
    obtain ⟨p, hp, hpb⟩ := List.mem_map.mp this
    exact hb' p hp hpb

/-- one turn of a loop's body, whatever the iterator -/
abbrev StepOk (prog : Program) (w : World) (A : Around) (R : Result → Shared → Prop) (target : Expr) (body : List Stmt) (env : Env) (base : Heap) (n : Nat) (P : Nat → Value → Heap → Prop) (J : Nat → (Str → Option Value) → Own → Prop) (Gd : Array GenState → Prop) (s : Shared) : Prop :=
  ∀ (S : Nat → Own → Array GenState → Prop) (_ : ∀ i own G, S i own G → Gd G) (i : Nat) (v : Value) (m : Str → Option Value) (news own : Own) (s₁ : Shared), i < n → J i m news → P i v s₁.heap → S (i + 1) own s₁.gens →
    Fr base env.locals s₁.heap m → News base env.locals s₁.heap (news ++ own) → Apart news own → s₁.os = s.os → s.toks ≤ s₁.toks →
    wpAny (model prog w) A (assign target env v) (fun _ s₂ => wpAny (model prog w) A (execs body env) (fun f s₃ => s.toks ≤ s₃.toks → match f with
      | .next | .cont => Turn base env.locals S J s.os s.toks (i + 1) s₃
      | .brk => R (.ok .next) s₃
      | .ret v => R (.ok (.ret v)) s₃) NoE s₂) NoE s₁
abbrev DoneOk (prog : Program) (w : World) (A : Around) (R : Result → Shared → Prop) (orelse : List Stmt) (env : Env) (base : Heap) (n : Nat) (J : Nat → (Str → Option Value) → Own → Prop) (Z : Own → Shared → Prop) (s : Shared) : Prop :=
  ∀ (m : Str → Option Value) (news : Own) (s₁ : Shared), J n m news → Z news s₁ → Fr base env.locals s₁.heap m → News base env.locals s₁.heap news → s₁.os = s.os → s.toks ≤ s₁.toks → wpAny (model prog w) A (execs orelse env) (fun f s' => R (.ok f) s') NoE s₁

theorem goName {it v : Value} {x : Str} {px : Pos} {s : Shared} {Q : Unit → Shared → Prop} (h : Q () s) : wpAny (model prog w) A (letOwnedTupleGo (.Name x px) it v) Q E s := wpAny_pure h

theorem holds_one {a : Addr} {o : Obj} {h : Heap} : Holds [(a, o)] h ↔ h.get? a = some o := ⟨fun H => H (a, o) (.head _), fun e p hp => by rcases List.mem_cons.mp hp with rfl | hp; exact e; cases hp⟩

/-- over a list that stands in the base -/
theorem forListB {R : Result → Shared → Prop} {x : Str} {px : Pos} {body orelse : List Stmt} {env : Env} {base : Heap} {l : Addr} {items : Array Value} {s : Shared} {m₀ : Str → Option Value} {news₀ : Own}
    (hh : A.handled = none) (hl : base.IsList l items) (hbase : base.NoLimit) (J : Nat → (Str → Option Value) → Own → Prop)
    (F : Fr base env.locals s.heap m₀) (N : News base env.locals s.heap news₀) (hJ : J 0 m₀ news₀)
    (step : StepOk prog w A R (.Name x px) body env base items.size (fun i v _ => items[i]? = some v) J (· = s.gens) s)
    (done : DoneOk prog w A R orelse env base items.size J (fun _ s₁ => s₁.gens = s.gens) s) :
    wpAny (model prog w) A (pyIter (.ref l)) (fun it s₂ => codeAny (model prog w) A (.forLoop (.Name x px) it body orelse env) R s₂) NoE s := by
  have hls : s.heap.IsList l items := hl.at fun o e => F.keep l o e
  obtain ⟨ol, hol, _⟩ := id hl
  have hlt : l < s.heap.objs.size := Heap.lt_size (F.keep _ _ hol)
  have hne : l ≠ s.heap.objs.size := Nat.ne_of_lt hlt
  refine wpAny_pyIter_list hls ?_
  have W := KTurns.ofWalks (target := .Name x px) (Walks.list (prog := prog) (w := w) hh s.heap.objs.size l hne items) fun _ _ _ _ _ _ h => goName h
  have hI : base.get? s.heap.objs.size = none := by
    cases e : base.get? s.heap.objs.size with
    | none => rfl
    | some o => exact absurd (Heap.lt_size (F.keep _ _ e)) (Nat.lt_irrefl _)
  have I := ItOk.ofTurns (hb := base) (ads := [s.heap.objs.size]) s.gens W (fun b hb => hb) (fun b hb => by
    rcases List.mem_cons.mp hb with rfl | hb
    · exact .inl (.head _)
    · rw [List.mem_singleton.mp hb]; exact .inr ⟨_, hol⟩) (fun b hb => by rw [List.mem_singleton.mp hb]; exact hI)
    (fun i h st b hb => by rw [List.mem_singleton.mp hb]; obtain ⟨⟨o, ho, _⟩, _⟩ := st; exact ⟨o, ho⟩)
  let o : Obj := { cls := .type "list_iterator", data := .fields #[.ref l, .int 0 0] }
  have F' : Fr base env.locals (s.heap.push o) m₀ := F.push o
  have N' : News base env.locals (s.heap.push o) ((s.heap.objs.size, o) :: news₀) := N.push F o
  have st0 : (s.heap.push o).IsListIter s.heap.objs.size l 0 ∧ (s.heap.push o).IsList l items := ⟨⟨_, Heap.get?_push_size _ rfl, rfl, rfl⟩, hls.at fun o e => Heap.get?_push_of_some _ e⟩
  refine forI (news₀ := news₀) (own₀ := [(s.heap.objs.size, o)]) I (Nat.zero_le _) hbase (fun _ _ e => e) J F' (news_app (fun p hp => N' p (.tail _ hp)) (fun p hp => N' p (by rw [List.mem_singleton.mp hp]; exact .head _))) ?_ ⟨rfl, rfl, fun h O H => ?_⟩ hJ (fun i v m news own s₁ => step _ (fun _ _ _ h => h.1) i v m news own s₁) (fun m news s₁ J₁ Z₁ => done m news s₁ J₁ Z₁)
  · intro p hp q hq e
    rw [List.mem_singleton.mp hq] at e
    have := Heap.lt_size (N p hp).1
    rw [e] at this; exact absurd this (Nat.lt_irrefl _)
  · have e := holds_one.mp H
    exact ⟨⟨_, e, rfl, rfl⟩, hl.at fun o e => O _ _ e⟩

/-- over a list of the call's own -/
theorem forListN {R : Result → Shared → Prop} {x : Str} {px : Pos} {body orelse : List Stmt} {env : Env} {base : Heap} {l : Addr} {items : Array Value} {k : Nat} {s : Shared} {m₀ : Str → Option Value} {news₀ : Own}
    (hh : A.handled = none) (hbase : base.NoLimit) (J : Nat → (Str → Option Value) → Own → Prop)
    (F : Fr base env.locals s.heap m₀) (N : News base env.locals s.heap ((l, { cls := .type "list", data := .seq items k }) :: news₀)) (ap : ∀ p ∈ news₀, p.1 ≠ l) (hJ : J 0 m₀ news₀)
    (step : StepOk prog w A R (.Name x px) body env base items.size (fun i v _ => items[i]? = some v) J (· = s.gens) s)
    (done : DoneOk prog w A R orelse env base items.size J (fun _ s₁ => s₁.gens = s.gens) s) :
    wpAny (model prog w) A (pyIter (.ref l)) (fun it s₂ => codeAny (model prog w) A (.forLoop (.Name x px) it body orelse env) R s₂) NoE s := by
  have hg := (N _ (.head _)).1
  have hls : s.heap.IsList l items := ⟨_, hg, rfl, _, rfl⟩
  have hlt : l < s.heap.objs.size := Heap.lt_size hg
  have hne : l ≠ s.heap.objs.size := Nat.ne_of_lt hlt
  refine wpAny_pyIter_list hls ?_
  have W := KTurns.ofWalks (target := .Name x px) (Walks.list (prog := prog) (w := w) hh s.heap.objs.size l hne items) fun _ _ _ _ _ _ h => goName h
  have hI : base.get? s.heap.objs.size = none := by
    cases e : base.get? s.heap.objs.size with
    | none => rfl
    | some o => exact absurd (Heap.lt_size (F.keep _ _ e)) (Nat.lt_irrefl _)
  have I := ItOk.ofTurns (hb := base) (ads := [s.heap.objs.size, l]) s.gens W (fun b hb => by rw [List.mem_singleton.mp hb]; exact .head _) (fun b hb => .inl hb) (fun b hb => by
      rcases List.mem_cons.mp hb with rfl | hb
      · exact hI
      · rw [List.mem_singleton.mp hb]; exact (N _ (.head _)).2.2)
    (fun i h st b hb => by
      obtain ⟨⟨o, ho, _⟩, ⟨o', ho', _⟩⟩ := st
      rcases List.mem_cons.mp hb with rfl | hb
      · exact ⟨o, ho⟩
      · rw [List.mem_singleton.mp hb]; exact ⟨o', ho'⟩)
  let o : Obj := { cls := .type "list_iterator", data := .fields #[.ref l, .int 0 0] }
  let lo : Obj := { cls := .type "list", data := .seq items k }
  have F' : Fr base env.locals (s.heap.push o) m₀ := F.push o
  have N' : News base env.locals (s.heap.push o) ((s.heap.objs.size, o) :: (l, lo) :: news₀) := N.push F o
  refine forI (news₀ := news₀) (own₀ := [(s.heap.objs.size, o), (l, lo)]) I (Nat.zero_le _) hbase (fun _ _ e => e) J F' (news_app (fun p hp => N' p (.tail _ (.tail _ hp))) (fun p hp => N' p ?_)) ?_ ⟨rfl, rfl, fun h O H => ?_⟩ hJ (fun i v m news own s₁ => step _ (fun _ _ _ h => h.1) i v m news own s₁) (fun m news s₁ J₁ Z₁ => done m news s₁ J₁ Z₁)
  · rcases List.mem_cons.mp hp with rfl | hp
    · exact .head _
    · rw [List.mem_singleton.mp hp]; exact .tail _ (.head _)
  · intro p hp q hq e
    rcases List.mem_cons.mp hq with rfl | hq
    · have := Heap.lt_size (N p (.tail _ hp)).1
      rw [e] at this; exact absurd this (Nat.lt_irrefl _)
    · rw [List.mem_singleton.mp hq] at e; exact ap p hp e
  · exact ⟨⟨_, H _ (.head _), rfl, rfl⟩, ⟨_, H _ (.tail _ (.head _)), rfl, _, rfl⟩⟩

/-- over enumerate of a list of the base -/
theorem forEnumB {R : Result → Shared → Prop} {elts : List Expr} {tk : Nat} {px : Pos} {body orelse : List Stmt} {env : Env} {base : Heap} {l : Addr} {items : Array Value} {s : Shared} {m₀ : Str → Option Value} {news₀ : Own}
    (hh : A.handled = none) (hl : base.IsList l items) (hbase : base.NoLimit) (J : Nat → (Str → Option Value) → Own → Prop)
    (F : Fr base env.locals s.heap m₀) (N : News base env.locals s.heap news₀) (hJ : J 0 m₀ news₀)
    (step : ∀ s' : Shared, s'.os = s.os → s'.gens = s.gens → s.toks ≤ s'.toks → StepOk prog w A R (.Tuple elts tk px) body env base items.size (fun i v h => ∃ T t y, v = .ref T ∧ items[i]? = some y ∧ IsTup h T #[.int i t, y]) J (· = s.gens) s')
    (done : ∀ s' : Shared, s'.os = s.os → s'.gens = s.gens → s.toks ≤ s'.toks → DoneOk prog w A R orelse env base items.size J (fun _ s₁ => s₁.gens = s.gens) s') :
    wpAny (model prog w) A (call (.type "enumerate") [.ref l]) (fun x s₁ => wpAny (model prog w) A (pyIter x) (fun it s₂ => codeAny (model prog w) A (.forLoop (.Tuple elts tk px) it body orelse env) R s₂) NoE s₁) NoE s := by
  have hls : s.heap.IsList l items := hl.at fun o e => F.keep l o e
  obtain ⟨ol, hol, _⟩ := id hl
  have hlt : l < s.heap.objs.size := Heap.lt_size (F.keep _ _ hol)
  refine wpAny_mono (wpAny_toks_of (Nat.le_refl s.toks) (call_enumerate_list (Q := fun x s₁ => s.toks ≤ s₁.toks → wpAny (model prog w) A (pyIter x) (fun it s₂ => codeAny (model prog w) A (.forLoop (.Tuple elts tk px) it body orelse env) R s₂) NoE s₁) hls fun h₂ hE hI hsz hk₂ htk => ?_)) (fun _ _ x => x.2 x.1) fun _ _ x => x.2
  have W0 := WalksT.enumerate (prog := prog) (w := w) (A := A) hh (s.heap.objs.size + 1) s.heap.objs.size l (Nat.succ_ne_self _) (Nat.ne_of_lt (Nat.lt_succ_of_lt hlt)) (Nat.ne_of_lt hlt) items
  refine W0.self 0 _ _ _ ⟨⟨_, hE⟩, hI, hls.at fun o e => hk₂ _ _ e⟩ ?_
  have hI0 : base.get? s.heap.objs.size = none := by
    cases e : base.get? s.heap.objs.size with
    | none => rfl
    | some o => exact absurd (Heap.lt_size (F.keep _ _ e)) (Nat.lt_irrefl _)
  have hI1 : base.get? (s.heap.objs.size + 1) = none := by
    cases e : base.get? (s.heap.objs.size + 1) with
    | none => rfl
    | some o => exact absurd (Heap.lt_size (F.keep _ _ e)) (Nat.not_lt.mpr (Nat.le_succ _))
  have I := ItOk.ofTurns (hb := base) (ads := [s.heap.objs.size + 1, s.heap.objs.size]) s.gens (KTurns.ofWalksU (elts := elts) (k := tk) (pos := px) W0.toU) (fun b hb => hb) (fun b hb => by
    rcases List.mem_cons.mp hb with rfl | hb
    · exact .inl (.head _)
    · rcases List.mem_cons.mp hb with rfl | hb
      · exact .inl (.tail _ (.head _))
      · rw [List.mem_singleton.mp hb]; exact .inr ⟨_, hol⟩) (fun b hb => by
    rcases List.mem_cons.mp hb with rfl | hb
    · exact hI1
    · rw [List.mem_singleton.mp hb]; exact hI0)
    (fun i h st b hb => by
      obtain ⟨⟨old, he⟩, ⟨o, ho, _⟩, _⟩ := st
      rcases List.mem_cons.mp hb with rfl | hb
      · exact ⟨_, he⟩
      · rw [List.mem_singleton.mp hb]; exact ⟨o, ho⟩)
  have F' : Fr base env.locals h₂ m₀ := Fr.old F hk₂
  obtain ⟨oi, hoi, hoi2, hoi3⟩ := id hI
  have hLs : env.locals < s.heap.objs.size := F.ns.lt
  obtain ⟨oe, hoe⟩ : ∃ oe, h₂.get? (s.heap.objs.size + 1) = some oe := ⟨_, hE⟩
  refine forI (news₀ := news₀) (own₀ := [(s.heap.objs.size + 1, oe), (s.heap.objs.size, oi)]) I (Nat.zero_le _) hbase (fun _ _ e => e) J F' (news_app (News.old N hk₂) (fun p hp => ?_)) ?_ ⟨rfl, rfl, fun h O H => ?_⟩ hJ (fun i v m news own s₁ hi J₁ P₁ S₁ F₁ N₁ a₁ o₁ t₁ => step _ rfl rfl htk _ (fun _ _ _ h => h.1) i v m news own s₁ hi J₁ ?_ S₁ F₁ N₁ a₁ o₁ t₁) (fun m news s₁ J₁ Z₁ => done _ rfl rfl htk m news s₁ J₁ Z₁)
  · rcases List.mem_cons.mp hp with rfl | hp
    · exact ⟨hoe, fun e => absurd (e ▸ hLs) (by show ¬ s.heap.objs.size + 1 < _; omega), hI1⟩
    · rw [List.mem_singleton.mp hp]; exact ⟨hoi, fun e => absurd (e ▸ hLs) (by show ¬ s.heap.objs.size < _; omega), hI0⟩
  · intro p hp q hq e
    have := Heap.lt_size (N p hp).1
    rcases List.mem_cons.mp hq with rfl | hq
    · rw [e] at this; exact absurd this (by show ¬ s.heap.objs.size + 1 < _; omega)
    · rw [List.mem_singleton.mp hq] at e; rw [e] at this; exact absurd this (by show ¬ s.heap.objs.size < _; omega)
  · refine ⟨⟨.none, ?_⟩, ⟨_, H _ (.tail _ (.head _)), hoi2, hoi3⟩, hl.at fun o e => O _ _ e⟩
    have e1 : h.get? (s.heap.objs.size + 1) = some oe := H _ (.head _)
    show h.get? (s.heap.objs.size + 1) = _
    rw [e1, ← hoe]
    exact hE
  · obtain ⟨T, vals, hv, ⟨t, y, hy, hvals⟩, hT⟩ := P₁
    exact ⟨T, t, y, hv, hy, hvals ▸ hT⟩

/-- append to the first list of the ledger -/
theorem appendA {base : Heap} {L l : Addr} {m : Str → Option Value} {items : Array Value} {n : Nat} {rest : Own} {v : Value} {s : Shared} {Q : Value → Shared → Prop}
    (F : Fr base L s.heap m) (N : News base L s.heap ([(l, { cls := .type "list", data := .seq items n })] ++ rest)) (ap : Apart [(l, { cls := .type "list", data := .seq items n })] rest) (hsz : items.size ≤ sizeLine)
    (h : ∀ h' n', Fr base L h' m → News base L h' ([(l, { cls := .type "list", data := .seq (items.push v) n' })] ++ rest) → Apart [(l, { cls := .type "list", data := .seq (items.push v) n' })] rest → Q .none { s with heap := h' }) :
    wpAny (model prog w) A (call (.builtin "list.append") [.ref l, v]) Q E s := by
  have hl : s.heap.PlainList l items := ⟨n, (N _ (.head _)).1⟩
  refine wpAny_list_append_plain (hsz := hsz) hl fun h' hl' hs' => ?_
  obtain ⟨n', hn'⟩ := hl'
  have hs2 : ∀ b o, b ≠ l → s.heap.get? b = some o → h'.get? b = some o := fun b o hb e => (hs'.2 b hb).trans e
  refine h h' n' ⟨F.ns.at' fun o e => hs2 _ o ?_ e, fun b o e => hs2 b o ?_ (F.keep b o e), F.above⟩ ?_ ?_
  · exact fun e => (N _ (.head _)).2.1 e.symm
  · rintro rfl; rw [(N _ (.head _)).2.2] at e; cases e
  · intro p hp
    rcases List.mem_cons.mp hp with rfl | hp
    · exact ⟨hn', (N _ (.head _)).2⟩
    · exact ⟨hs2 _ _ (fun e => ap _ (.head _) p hp e.symm) (N _ (.tail _ hp)).1, (N _ (.tail _ hp)).2⟩
  · intro p hp q hq
    rw [List.mem_singleton.mp hp]
    exact ap _ (.head _) q hq
end
end PartB5
end Mine

namespace Mine
section PartB7
open PySem PySem.W PySem.Calls PyProof.Rows Builtin Builtin.Str
theorem addS {prog : Program} {w : World} {A : Around} {E : Value → Shared → Prop} {s : Shared} {x y : Str} {t u : Tok} {Q : Value → Shared → Prop} (hx : x.length ≠ 0) (hy : y.length ≠ 0) (hsz : x.length + y.length ≤ sizeLine)
    (h : Q (.str (x ++ y) s.toks) { s with toks := s.toks + 1 }) : wpAny (model prog w) A (binaryOp .Add (.str x t) (.str y u)) Q E s := by
  refine P.add_str ?_
  rw [if_neg (by simpa using hx), if_neg (by simpa using hy)]
  exact ⟨by rw [size_cat]; exact hsz, h⟩
theorem strs_pairs {vs : List Value} {xs : List Str} (h : StrsAre vs xs) : ∃ l : List (Str × Tok), strValues l = vs ∧ l.map (·.1) = xs := by
  induction h with
  | nil => exact ⟨[], rfl, rfl⟩
  | cons y t _ ih => obtain ⟨l, a, b⟩ := ih; exact ⟨(y, t) :: l, by rw [← a]; rfl, by rw [← b]; rfl⟩
theorem joinA {prog : Program} {w : World} {A : Around} {E : Value → Shared → Prop} {s : Shared} {D : Addr} {vs : Array Value} {xs : List Str} {sep : Str} {t : Tok} {Q : Value → Shared → Prop} (hl : s.heap.IsList D vs) (hs : StrsAre vs.toList xs)
    (hB : ∀ y ∈ xs, y.length ≤ 2000) (hn : xs.length ≤ 2000) (h0 : sep.length = 0) (h : ∀ t' k, Q (.str (Txt.join sep xs) t') { s with toks := k }) : wpAny (model prog w) A (call (.builtin "str.join") [.str sep t, .ref D]) Q E s := by
  obtain ⟨l, e1, e2⟩ := strs_pairs hs
  refine SC.join (l := l) (texts := xs) (by rw [e1]; simpa using hl) e2 ?_ h
  unfold JoinOk
  rw [StrLaws.joinFits hB (by rw [h0]; omega)]
  rfl
def find4 (x y : Str) (i j : Int) : Int := match occurrences x y (fromIndex x.length i) (min (fromIndex x.length j) x.length) 1 with | k :: _ => (k : Int) | [] => -1
theorem gives_find4 (x y : Str) (i j : Int) (t u v v' : Tok) : Gives («str.find» ⟨[.str x t, .str y u, .int i v, .int j v'], []⟩) (.int (find4 x y i j)) := by
  show Gives (match occurrences x y (fromIndex x.length i) (min (fromIndex x.length j) x.length) 1 with | k :: _ => retInt k | [] => (do rule "str.find.not-found"; retInt (-1))) _
  unfold find4
  cases occurrences x y (fromIndex x.length i) (min (fromIndex x.length j) x.length) 1 with
  | nil => exact .rule (.of_eq rfl)
  | cons k _ => exact .of_eq rfl
section
variable {prog : Program} {w : World} {A : Around} {E : Value → Shared → Prop} {s : Shared} {x y : Str} {t u v v' : Tok} {i j : Int} {Q : Value → Shared → Prop}
theorem find4_ (hq : Q (.int (find4 x y i j) s.toks) { s with toks := s.toks + 1 }) : wpAny (model prog w) A (call (.builtin "str.find") [.str x t, .str y u, .int i v, .int j v']) Q E s :=
  call_gives F.slot_str_find (typeIs_str _ _ _) F.entry_str_find (F.args_str_find_4 _ _ _ _) (gives_find4 x y i j t u v v') hq
end
abbrev ellA (row : Str) : Int := find4 row ⟨#[]⟩ 0 row.length
abbrev ellB (row : Str) : Int := find4 row ⟨#[49, 49]⟩ (ellA row + (Str.length ⟨#[]⟩ : Nat)) row.length
abbrev ellC (row : Str) : Int := find4 row ⟨#[]⟩ (ellB row + (Str.length ⟨#[49, 49]⟩ : Nat)) row.length
def ellP (row : Str) : Bool := if ellA row < 0 then false else if ellB row < 0 then false else if ellC row < 0 then false else true
theorem ell1 {row : Str} (a : ellA row < 0) : ellP row = false := if_pos a
theorem ell2 {row : Str} (a : ¬ ellA row < 0) (b : ellB row < 0) : ellP row = false := (if_neg a).trans (if_pos b)
theorem ell3 {row : Str} (a : ¬ ellA row < 0) (b : ¬ ellB row < 0) (c : ellC row < 0) : ellP row = false := (if_neg a).trans ((if_neg b).trans (if_pos c))
theorem ell4 {row : Str} (a : ¬ ellA row < 0) (b : ¬ ellB row < 0) (c : ¬ ellC row < 0) : ellP row = true := (if_neg a).trans ((if_neg b).trans (if_neg c))
end PartB7
end Mine

namespace Mine
section PartB3
open PySem PySem.W PySem.Calls PyProof.Rows
theorem fillK (w : World) : PySem.Challenge.rw_ux0008_01 = PySem.Challenge.rw_ux0008_01 ∧ Mine.hd.heap_39 w.params = Mine.hd.heap_39 w.params := by
  k_fill
  exact ⟨rfl, rfl⟩

/-- entering a def of the text: the base is the heap at the call -/
theorem enterF {prog : Program} {w : World} {A : Around} {E : Value → Shared → Prop} {s : Shared} {K : Frag} {p : Program} {loose : List Str} {mean : ExcName → Option Value} {mg mb : Str → Option Value} {Q : Value → Shared → Prop}
    {name qual : Str} {params : Arguments} {body : List Stmt} {scope : Scope} {dV kV doc pm cdv ct oc : Value} {an od : Option Addr} {osl : Array (Option Value)} {f : Addr} {args : List Value} {binds : List (Str × Value)}
    (X : K.In s.heap) (T : Top p loose mean mg mb s.heap)
    (ho : K.lookup f = some ⟨oc, od, .func (fnOf name qual params body scope dV kV doc pm an cdv ct), osl⟩) (hcd : codeIn K cdv qual = true) (hroom : A.depth < recursionLimit)
    (hbind : bindArgs (fnOf name qual params body scope dV kV doc pm an cdv ct) ⟨args, []⟩ = pure binds) (hloc : (binds.all fun x => decide (scope.names.lookup x.1 = some .local)) = true)
    (hcell : (scope.names.all fun x => decide (x.2 ≠ .cell)) = true)
    (h : ∀ L h₁, Fr s.heap L h₁ (fun y => binds.reverse.lookup y) → Old s.heap h₁ →
      wpAny (model prog w) (A.deeper (envOf qual scope L f cdv)) (execs body (envOf qual scope L f cdv))
        (fun fl s' => s.toks ≤ s'.toks → Q (match fl with | .ret v => v | _ => .none) s') NoE { s with heap := h₁, toks := s.toks + binds.length })
    (hco : scope.isCoroutine = false) (hgen : scope.isGenerator = false) (hk : scope.kind = .function) :
    wpAny (model prog w) A (call (.ref f) args) Q E s := by
  refine wpAny_mono (wpAny_toks_of (Nat.le_refl s.toks) (?_ : wpAny (model prog w) A (call (.ref f) args) (fun v s' => s.toks ≤ s'.toks → Q v s') NoE s)) (fun _ _ x => x.2 x.1) fun _ _ x => x.2.elim
  refine wpAny_call (codeAny_call_def (fd := fnOf name qual params body scope dV kV doc pm an cdv ct) (body := body) hroom (X _ _ ho) rfl T.nolimit (codeRec_of X hcd) rfl (BindsTo.of_eq hbind) ?_ (locs hloc) (fun h₁ hns hk₁ => ?_) hco hgen hk)
  · intro x hx
    exact of_decide_eq_true (List.all_eq_true.mp hcell x hx)
  · exact wpAny_mono (h s.heap.objs.size h₁ ⟨hns, hk₁, Nat.le_refl _⟩ hk₁) (fun _ _ x => x) fun _ _ x => x.elim

local macro_rules | `(tactic| walk_at "enterF") => `(tactic| (
  (case ho => k_is); (case hcd => k_is); (case hr => (dsimp only [Around.deeper, Around.in1]; omega)); (case hb => exact rfl); (case hl => rfl); (case hc => rfl); (case h1 => exact rfl); (case h2 => exact rfl); (case h3 => exact rfl)))


section
variable {prog : Program} {w : World} {d u : Nat} {fr : Option (List Env)} {gd : Option (List Code)} {s : Shared} {loose : List Str} {mean : ExcName → Option Value} {mg mb : Str → Option Value} {Q E : Value → Shared → Prop}
theorem add_c {a : Int} {ta : Tok} {b : Int} {tb : Tok} (hroom : d + 1 < recursionLimit) (KX : (Mine.hd.heap_39 w.params).In s.heap) (T : Top Mine.hd.view_39 loose mean mg mb s.heap)
   (hQ : ∀ t s', Same s s' → Q (.int (a + b) t) s') :
   wpAny (model prog w) (Ar d u fr gd) (call (.ref 21) [.int a ta, .int b tb]) Q E s := by
  refine' enterF (binds := [(Str.ofString "a", .int a ta), (Str.ofString "b", .int b tb)]) KX T ?ho ?hcd ?hr ?hb ?hl ?hc ?_ ?h1 ?h2 ?h3
  walk_at "enterF"
  intro L h₁ F hk
  try dsimp only
  k_steps
  (try intro htk); refine hQ _ _ ?_; exact ⟨hk, rfl, rfl, by assumption⟩
theorem floordiv_c {a : Int} {ta : Tok} {b : Int} {tb : Tok} (hb : b ≠ 0) (hp : b.natAbs.log2 < 9000) (hroom : d + 1 < recursionLimit) (KX : (Mine.hd.heap_39 w.params).In s.heap) (T : Top Mine.hd.view_39 loose mean mg mb s.heap)
   (hQ : ∀ t s', Same s s' → Q (.int (Int.fdiv a b) t) s') :
   wpAny (model prog w) (Ar d u fr gd) (call (.ref 28) [.int a ta, .int b tb]) Q E s := by
  refine' enterF (binds := [(Str.ofString "a", .int a ta), (Str.ofString "b", .int b tb)]) KX T ?ho ?hcd ?hr ?hb ?hl ?hc ?_ ?h1 ?h2 ?h3
  walk_at "enterF"
  intro L h₁ F hk
  try dsimp only
  k_steps
  refine floordiv_int hb ?_ (Or.inl (PyProof.noPylong_of_log2 hp))
  (try intro htk); refine hQ _ _ ?_; exact ⟨hk, rfl, rfl, by assumption⟩
theorem mod_c {a : Int} {ta : Tok} {b : Int} {tb : Tok} (hb : b ≠ 0) (hroom : d + 1 < recursionLimit) (KX : (Mine.hd.heap_39 w.params).In s.heap) (T : Top Mine.hd.view_39 loose mean mg mb s.heap)
   (hQ : ∀ t s', Same s s' → Q (.int (Int.fmod a b) t) s') :
   wpAny (model prog w) (Ar d u fr gd) (call (.ref 35) [.int a ta, .int b tb]) Q E s := by
  refine' enterF (binds := [(Str.ofString "a", .int a ta), (Str.ofString "b", .int b tb)]) KX T ?ho ?hcd ?hr ?hb ?hl ?hc ?_ ?h1 ?h2 ?h3
  walk_at "enterF"
  intro L h₁ F hk
  try dsimp only
  k_steps
  (try intro htk); refine hQ _ _ ?_; exact ⟨hk, rfl, rfl, by assumption⟩
theorem mul_c {a : Int} {ta : Tok} {b : Int} {tb : Tok} (hm : IntMulOk a b) (hroom : d + 1 < recursionLimit) (KX : (Mine.hd.heap_39 w.params).In s.heap) (T : Top Mine.hd.view_39 loose mean mg mb s.heap)
   (hQ : ∀ t s', Same s s' → Q (.int (a * b) t) s') :
   wpAny (model prog w) (Ar d u fr gd) (call (.ref 42) [.int a ta, .int b tb]) Q E s := by
  refine' enterF (binds := [(Str.ofString "a", .int a ta), (Str.ofString "b", .int b tb)]) KX T ?ho ?hcd ?hr ?hb ?hl ?hc ?_ ?h1 ?h2 ?h3
  walk_at "enterF"
  intro L h₁ F hk
  try dsimp only
  k_steps
  (try intro htk); refine hQ _ _ ?_; exact ⟨hk, rfl, rfl, by assumption⟩
theorem neg_c {a : Int} {ta : Tok} (hroom : d + 1 < recursionLimit) (KX : (Mine.hd.heap_39 w.params).In s.heap) (T : Top Mine.hd.view_39 loose mean mg mb s.heap)
   (hQ : ∀ t s', Same s s' → Q (.int (- a) t) s') :
   wpAny (model prog w) (Ar d u fr gd) (call (.ref 49) [.int a ta]) Q E s := by
  refine' enterF (binds := [(Str.ofString "a", .int a ta)]) KX T ?ho ?hcd ?hr ?hb ?hl ?hc ?_ ?h1 ?h2 ?h3
  walk_at "enterF"
  intro L h₁ F hk
  try dsimp only
  k_steps
  (try intro htk); refine hQ _ _ ?_; exact ⟨hk, rfl, rfl, by assumption⟩
theorem contains_c {l : Addr} {vs : List Value} {xs : List Str} {b : Str} {tb : Tok} (hl : s.heap.IsList l vs.toArray) (hs : StrsAre vs xs) (hroom : d + 1 < recursionLimit) (KX : (Mine.hd.heap_39 w.params).In s.heap) (T : Top Mine.hd.view_39 loose mean mg mb s.heap)
   (hQ : ∀ s', Same s s' → Q (.bool (xs.any fun x => x == b)) s') :
   wpAny (model prog w) (Ar d u fr gd) (call (.ref 56) [.ref l, .str b tb]) Q E s := by
  refine' enterF (binds := [(Str.ofString "a", .ref l), (Str.ofString "b", .str b tb)]) KX T ?ho ?hcd ?hr ?hb ?hl ?hc ?_ ?h1 ?h2 ?h3
  walk_at "enterF"
  intro L h₁ F hk
  try dsimp only
  k_steps
  (try intro htk); refine hQ _ ?_; exact ⟨hk, rfl, rfl, by assumption⟩
end
end PartB3
end Mine

namespace Mine
section PartB4
open PySem PySem.W PySem.Calls PyProof.Rows
local macro_rules | `(tactic| walk_at "enterF") => `(tactic| (
  (case ho => k_is); (case hcd => k_is); (case hr => (dsimp only [Around.deeper, Around.in1]; omega)); (case hb => exact rfl); (case hl => rfl); (case hc => rfl); (case h1 => exact rfl); (case h2 => exact rfl); (case h3 => exact rfl)))
local macro_rules | `(tactic| walk_at "eval Name") => `(tactic| (k_here; k_dflt (refine' ld ?k1 ?k2 ?_; (case k1 => k_asm); (case k2 => assumption); k_whole)))
theorem fillK4 (w : World) : PySem.Challenge.rw_ux0008_01 = PySem.Challenge.rw_ux0008_01 ∧ Mine.hd.heap_39 w.params = Mine.hd.heap_39 w.params := by
  k_fill
  exact ⟨rfl, rfl⟩

theorem none_booked {P : Params} {h : Heap} (X : (Mine.hd.heap_39 P).In h) : NoneBooked h := by
  have e : (Mine.hd.heap_39 P).lookup 2 = some { cls := Value.none, data := Data.dict #[] } := by k_is
  have g := X _ _ e
  exact ⟨fun _ => none, ⟨_, _, _, g, rfl, by intro e he; simp at he, fun name => by simp [nsFind, findBy]⟩, rfl⟩
theorem in_keeps {K : Frag} {base h : Heap} {L : Addr} {m : Str → Option Value} (X : K.In base) (F : Fr base L h m) : K.In h := Frag.In.keeps X F.keep

section
variable {prog : Program} {w : World} {d u : Nat} {fr : Option (List Env)} {gd : Option (List Code)} {s : Shared} {loose : List Str} {mean : ExcName → Option Value} {mg mb : Str → Option Value} {Q E : Value → Shared → Prop}
theorem idxOf_at {xs : List Str} {b : Str} {i : Nat} (h : xs[i]? = some b) (hno : ∀ j, j < i → xs[j]? ≠ some b) : xs.idxOf b = i := by
  induction xs generalizing i with
  | nil => simp at h
  | cons x r ih =>
    cases i with
    | zero => simp at h; subst h; simp
    | succ i =>
      have h0 := hno 0 (Nat.succ_pos _)
      have hx : x ≠ b := by simpa using h0
      have := ih (i := i) (by simpa using h) (fun j hj => by have := hno (j + 1) (Nat.succ_lt_succ hj); simpa using this)
      rw [List.idxOf_cons]
      have e : (x == b) = false := by simpa using hx
      simp [e, this]

theorem indexOf_c {l : Addr} {vs : List Value} {xs : List Str} {b : Str} {tb : Tok} (hl : s.heap.IsList l vs.toArray) (hs : StrsAre vs xs) (hb : b ∈ xs) (ht : tb ≠ 0) (hv : ∀ x t, Value.str x t ∈ vs → t ≠ 0 ∧ t ≠ tb)
   (hroom : d + 1 < recursionLimit) (KX : (Mine.hd.heap_39 w.params).In s.heap) (T : Top Mine.hd.view_39 loose mean mg mb s.heap)
   (hQ : ∀ t s', Same s s' → Q (.int (xs.idxOf b : Nat) t) s') :
   wpAny (model prog w) (Ar d u fr gd) (call (.ref 63) [.ref l, .str b tb]) Q E s := by
  refine' enterF (binds := [(Str.ofString "a", .ref l), (Str.ofString "b", .str b tb)]) KX T ?ho ?hcd ?hr ?hb ?hl ?hc ?_ ?h1 ?h2 ?h3
  walk_at "enterF"
  intro L h₁ F hk
  try dsimp only
  refine wpAny_execs_cons (forS ?_)
  k_steps
  refine forEnumB (base := s.heap) (items := vs.toArray) rfl hl T.nolimit (fun i m news => m (Str.ofString "b") = some (.str b tb) ∧ news = [] ∧ ∀ j, j < i → xs[j]? ≠ some b) F News.nil ⟨rfl, rfl, fun _ h => absurd h (Nat.not_lt_zero _)⟩ ?_ ?_
  · rintro s' hos hgs htk S hSG i v m news own s₁ hi ⟨hmb, rfl, hno⟩ ⟨T', t, y, rfl, hy, hT⟩ S₁ F₁ N₁ a₁ o₁ t₁
    obtain ⟨yy, ty, rfl, hyy⟩ := hs.item i y (by simpa using hy)
    have hvy := hv yy ty (List.mem_of_getElem? (by simpa using hy))
    have g₁ := hSG _ _ _ S₁
    k_steps
    rename_i h3 F3 N3
    refine is_strT hvy.1 ht hvy.2 (none_booked (in_keeps KX F3)) (fun r hr => ?_)
    k_steps
    · rename_i e _ _
      rw [← idxOf_at (hr e ▸ hyy) hno]
      refine hQ _ _ ?_
      exact ⟨F3.keep, o₁.trans hos, g₁, by assumption⟩
    · rename_i e _ _
      rw [← idxOf_at ((eq_of_beq e) ▸ hyy) hno]
      refine hQ _ _ ?_
      exact ⟨F3.keep, o₁.trans hos, g₁, by assumption⟩
    · rename_i e htk'
      refine ⟨⟨_, [], own, F3, N3, a₁, S₁, hmb, rfl, ?_⟩, o₁, htk'⟩
      · intro j hj
        rcases Nat.lt_succ_iff_lt_or_eq.mp hj with hj | rfl
        · exact hno j hj
        · rw [hyy]; intro e'; rw [Option.some.inj e'] at e; simp at e
  · rintro s' hos hgs htk m news s₁ ⟨hmb, rfl, hno⟩ Z₁ F₁ N₁ o₁ t₁
    obtain ⟨i, hi⟩ := List.getElem?_of_mem hb
    have hlen := hs.length
    exact absurd hi (hno i (by have := (List.getElem?_eq_some_iff.mp hi).1; simp; omega))
end
end PartB4
end Mine

namespace Mine
section PartB6
open PySem PySem.W PySem.Calls PyProof.Rows
local macro_rules | `(tactic| walk_at "enterF") => `(tactic| (
  (case ho => k_is); (case hcd => k_is); (case hr => (dsimp only [Around.deeper, Around.in1]; omega)); (case hb => exact rfl); (case hl => rfl); (case hc => rfl); (case h1 => exact rfl); (case h2 => exact rfl); (case h3 => exact rfl)))
local macro_rules | `(tactic| walk_at "eval Name") => `(tactic| (k_here; k_dflt (refine' ld ?k1 ?k2 ?_; (case k1 => k_asm); (case k2 => assumption); k_whole)))
local macro_rules | `(tactic| walk_at "call builtin:str.find") => `(tactic| (refine find4_ ?_))
local macro_rules | `(tactic| walk_at "call builtin:len") => `(tactic| ((with_reducible show wpAny _ _ (call (Value.builtin _) [Value.str _ _]) _ _ _); refine len_str (by decide) ?_))
theorem fillK6 (w : World) : PySem.Challenge.rw_ux0008_01 = PySem.Challenge.rw_ux0008_01 ∧ Mine.hd.heap_39 w.params = Mine.hd.heap_39 w.params := by
  k_fill
  exact ⟨rfl, rfl⟩

section
variable {prog : Program} {w : World} {d u : Nat} {fr : Option (List Env)} {gd : Option (List Code)} {s : Shared} {loose : List Str} {mean : ExcName → Option Value} {mg mb : Str → Option Value} {Q E : Value → Shared → Prop}
theorem ellipsis_c {row : Str} {tw tr : Tok} (hlen : row.length ≤ 100)
   (hroom : d + 1 < recursionLimit) (KX : (Mine.hd.heap_39 w.params).In s.heap) (T : Top Mine.hd.view_39 loose mean mg mb s.heap)
   (hQ : ∀ s', Same s s' → Q (.bool (ellP row)) s') :
   wpAny (model prog w) (Ar d u fr gd) (call (.ref 70) [.str (Str.ofString "...11...") tw, .str row tr]) Q E s := by
  refine' enterF (binds := [(Str.ofString "want", .str (Str.ofString "...11...") tw), (Str.ofString "got", .str row tr)]) KX T ?ho ?hcd ?hr ?hb ?hl ?hc ?_ ?h1 ?h2 ?h3
  walk_at "enterF"
  intro L h₁ F hk
  try dsimp only
  have N0 : News s.heap L h₁ [] := News.nil
  k_steps
  · exact absurd (by assumption : _ = true) (by decide +kernel)
  · rename Fr _ _ _ _ => FE
    rw [ell1 (by assumption)] at hQ
    refine hQ _ ?_
    exact ⟨FE.keep, rfl, rfl, by assumption⟩
  · rename Fr _ _ _ _ => FE
    rw [ell2 (by assumption) (by assumption)] at hQ
    refine hQ _ ?_
    exact ⟨FE.keep, rfl, rfl, by assumption⟩
  · rename Fr _ _ _ _ => FE
    rw [ell3 (by assumption) (by assumption) (by assumption)] at hQ
    refine hQ _ ?_
    exact ⟨FE.keep, rfl, rfl, by assumption⟩
  · rename Fr _ _ _ _ => FE
    rw [ell4 (by assumption) (by assumption) (by assumption)] at hQ
    refine hQ _ ?_
    exact ⟨FE.keep, rfl, rfl, by assumption⟩
end
end PartB6
end Mine

namespace Mine
section PartB8
open PySem PySem.W PySem.Calls PyProof.Rows
section
variable {M : Model} {A : Around} {R : GenEnd} {Y : Protocol} {n : Nat} {s₀ : Shared} {c : Code} {fs : List Frame} {s : Shared} {env : Env}
  {K : Flow → Sem Fin} {H : Value → Sem Fin} {gd : Bool → Bool} {lv : List Value → List Value}

theorem seg_stmt {st : Stmt} (h : wpAny M (A.over c fs) (exec st env) (fun f s' => Seg M A R Y n s₀ c (K f) fs s') NoE s) :
    Seg M A R Y n s₀ c ((exec st env).wrap K H gd lv) fs s := seg_wrap (wpAny_mono h (fun _ _ x => x) fun _ _ x => x.elim)

theorem seg_If {test : Expr} {body orelse : List Stmt} {pos : Pos}
    (h : wpAny M (A.over c fs) (isTrue test env (eval test env)) (fun b s' => if b = true then Seg M A R Y n s₀ c ((execs body env).wrap K H gd lv) fs s' else Seg M A R Y n s₀ c ((execs orelse env).wrap K H gd lv) fs s') NoE s) :
    Seg M A R Y n s₀ c ((exec (.If test body orelse pos) env).wrap K H gd lv) fs s := by
  rw [exec_If]
  refine seg_bind_wrap (wpAny_standAt ?_)
  refine seg_bind_wrap (wpAny_mono h (fun b s' hb => ?_) fun _ _ x => x.elim)
  cases b with
  | true => rw [if_pos rfl] at hb; exact hb
  | false => rw [if_neg Bool.false_ne_true] at hb; exact hb

theorem seg_For {target iter : Expr} {body orelse : List Stmt} {pos : Pos}
    (h : wpAny M (A.over c fs) (eval iter env) (fun x s₁ => wpAny M (A.over c fs) (pyIter x) (fun it s₂ =>
      ∀ p, Seg M A R Y n s₀ (.forLoop target it body orelse env) (M.den (.forLoop target it body orelse env))
        (.ret (fun r => ((match r with | .ok f => (.pure f : Sem Flow) | .error e => .raise e).onRaise fun (x : Value) => do
          if (← field x 1) == Value.none then unsupported "frame.own-activation:exception-without-traceback"
          setFlight x env.frame).wrap K H gd lv) none (gd false) (lv []) c p [] :: fs) s₂) NoE s₁) NoE s)
    (hs : ∀ x, foldedSetIterable iter env x = pure x := by intro _; rfl) :
    Seg M A R Y n s₀ c ((exec (.For target iter body orelse pos) env).wrap K H gd lv) fs s := by
  rw [exec_For]
  refine seg_bind_wrap (wpAny_standAt ?_)
  refine seg_bind_wrap (wpAny_mono h (fun x s₁ h₁ => ?_) fun _ _ x => x.elim)
  rw [hs x]
  refine seg_bind_wrap (wpAny_pure ?_)
  refine seg_bind_wrap (wpAny_standAt ?_)
  refine seg_bind_wrap (wpAny_holding (wpAny_mono h₁ (fun it s₂ h₂ => ?_) fun _ _ x => x.elim))
  exact seg_call h₂
end

section
variable {prog : Program} {w : World} {A : Around} {R : GenEnd} {Y : Protocol} {n : Nat} {s₀ : Shared} {fs : List Frame} {s : Shared} {env : Env}

def forK (target : Expr) (it : Value) (body : List Stmt) (env : Env) : Flow → Sem Fin
  | .next | .cont => .pure (.again (.forLoop target it body [] env))
  | .brk => .pure (.done .next)
  | .ret v => .pure (.done (.ret v))
def forH (env : Env) : Value → Sem Fin := fun e => (do noteFrame e env; theTreesLotGoes e : Sem Unit).wrap (fun _ => .raise e) .raise id id

theorem seg_forLoop {target : Expr} {it : Value} {body : List Stmt}
    (h : wpAny (model prog w) (A.over (.forLoop target it body [] env) fs) (pyNext it) (fun r s₁ => match r with
      | none => Seg (model prog w) A R Y n s₀ (.block [] env) (leafOf (.ok .next)) fs s₁
      | some v => wpAny (model prog w) (A.over (.forLoop target it body [] env) fs) (letOwnedTupleGo target it v) (fun _ s₂ =>
          wpAny (model prog w) (A.over (.forLoop target it body [] env) fs) (assign target env v) (fun _ s₃ =>
            Seg (model prog w) A R Y n s₀ (.forLoop target it body [] env) ((execs body env).wrap (forK target it body env) (forH env) id id) fs s₃) NoE s₂) NoE s₁) NoE s) :
    Seg (model prog w) A R Y n s₀ (.forLoop target it body [] env) ((model prog w).den (.forLoop target it body [] env)) fs s := by
  show Seg _ A R Y n s₀ _ ((forTurn target it body [] env).onRaise (fun x => do noteFrame x env; theTreesLotGoes x)) fs s
  unfold forTurn
  rw [Sem.onRaise_eq_wrap]
  refine seg_bind_wrap (wpAny_standAt ?_)
  refine seg_bind_wrap (wpAny_onRaise (wpAny_mono h (fun r s₁ h₁ => ?_) fun _ _ x => x.elim))
  cases r with
  | none => exact seg_again rfl h₁
  | some v =>
    refine seg_bind_wrap (wpAny_mono h₁ (fun _ s₂ h₂ => ?_) fun _ _ x => x.elim)
    refine seg_bind_wrap (wpAny_mono h₂ (fun _ s₃ h₃ => ?_) fun _ _ x => x.elim)
    rw [Sem.bind_eq_wrap', Sem.wrap_wrap]
    rw [Sem.wrap_congr (execs body env) _ _ (K' := forK target it body env) (H' := forH env) (fun f => by cases f <;> rfl)
      (fun e => by first | exact Sem.bind_eq_wrap _ _ | (show (do noteFrame e env; theTreesLotGoes e : Sem Unit).bind (fun _ => .raise e) = _; rw [Sem.bind_eq_wrap]; rfl))]
    exact h₃
end
end PartB8
end Mine

namespace Mine
section PartB9
open PySem PySem.W PySem.Calls PyProof.Rows
section
variable {prog : Program} {w : World} {A : Around} {E : Value → Shared → Prop} {s : Shared}

/-- enumerate over a text: the sign that is given bears a token of this very moment -/
theorem enumTextNext {e it : Addr} {x : Str} {t : Tok} {i c : Nat} {old : Value} {Q : Option Value → Shared → Prop}
    (he : IsEnum s.heap e it i old) (hit : s.heap.IsStrIter it (strIterType x) x t i) (hx : x.cps[i]? = some c) (hne : e ≠ it)
    (hQ : ∀ h' T v, T = s.heap.objs.size → v = Value.str ⟨#[c]⟩ s.toks → IsEnumOut h' e it ((i : Int) + 1) v T → h'.IsStrIter it (strIterType x) x t (i + 1) →
      IsTup h' T #[.int i (s.toks + 1), v] → (∀ b o, b ≠ e → b ≠ it → s.heap.get? b = some o → h'.get? b = some o) → Q (some (.ref T)) { s with heap := h', toks := s.toks + 2 }) :
    wpAny (model prog w) A (pyNext (.ref e)) Q E s := by
  have draw : ∀ (A : Around) (E : Value → Shared → Prop) (Q : Value → Shared → Prop), (∀ h', h'.IsStrIter it (strIterType x) x t (i + 1) → Heap.SameBut it s.heap h' → Q (.str ⟨#[c]⟩ s.toks) { s with heap := h', toks := s.toks + 1 }) →
      wpAny (model prog w) A (Builtin.SmallTypes.nextOf (.ref it)) Q E s := by
    intro A E Q h
    unfold strIterType at hit h
    split at hit
    · rename_i hc; rw [if_pos hc] at h; exact wpAny_nextOf_ascii_item hit hx h
    · rename_i hc; rw [if_neg hc] at h; exact wpAny_nextOf_wide_item hit hx h
  have kind : s.TypeIs (.ref e) "enumerate" := ⟨_, he, rfl⟩
  unfold pyNext
  refine wpAny_bind (wpAny_attempt (wpAny_callSpecial?_slot (name := Str.ofString "__next__") kind F.slot_enumerate_next
    (wpAny_call_entry F.slot_enumerate_next kind F.entry_enumerate_next ?_ (F.args_enumerate_next_1 _))))
  obtain ⟨hp, G, dr, k, os⟩ := s
  -- the item
  show wpAny _ _ (field (.ref e) 2 >>= _) _ _ _
  refine wpAny_bind (wpAny_field he rfl (x := .ref it) rfl (wpAny_bind (draw _ _ _ fun h1 i1 b1 => ?_)))
  have b1' : h1.objs.size = hp.objs.size ∧ ∀ b, b ≠ it → h1.get? b = hp.get? b := b1
  have e1 : IsEnum h1 e it i old := (b1'.2 e hne).trans he
  -- its number
  refine wpAny_bind (wpAny_field (s := ⟨h1, G, dr, k + 1, os⟩) e1 rfl (x := rawInt i) rfl ?_)
  refine wpAny_bind (wpAny_field (s := ⟨h1, G, dr, k + 1, os⟩) e1 rfl (x := .none) rfl (wpAny_bind (wpAny_mkInt ?_)))
  refine wpAny_bind (wpAny_setField_rec (s := ⟨h1, G, dr, k + 2, os⟩) (x := rawInt ((i : Int) + 1)) (k := 3) e1 (by simp) fun h2 e2 b2 => ?_)
  replace e2 : IsEnum h2 e it ((i : Int) + 1) old := e2
  refine wpAny_bind (wpAny_setField_rec (s := ⟨h2, G, dr, k + 2, os⟩) (x := .none) (k := 4) e2 (by simp) fun h3 e3 b3 => ?_)
  replace e3 : IsEnum h3 e it ((i : Int) + 1) old := e3
  have b2' : h2.objs.size = h1.objs.size ∧ ∀ b, b ≠ e → h2.get? b = h1.get? b := b2
  have b3' : h3.objs.size = h2.objs.size ∧ ∀ b, b ≠ e → h3.get? b = h2.get? b := b3
  have z3 : h3.objs.size = hp.objs.size := by rw [b3'.1, b2'.1, b1'.1]
  -- the tuple
  refine wpAny_bind (wpAny_newTuple (s := ⟨h3, G, dr, k + 2, os⟩) ?_)
  rw [z3]
  have e4 := Heap.get?_push_of_some { cls := .type "tuple", data := .seq #[.int i (k + 1), .str ⟨#[c]⟩ k] } e3
  have t4 : (h3.push { cls := .type "tuple", data := .seq #[.int i (k + 1), .str ⟨#[c]⟩ k] }).get? hp.objs.size = some { cls := .type "tuple", data := .seq #[.int i (k + 1), .str ⟨#[c]⟩ k] } := by
    rw [← z3]; exact Heap.get?_push_size _ rfl
  have k4 : ∀ b o, b ≠ e → b ≠ it → hp.get? b = some o → (h3.push { cls := .type "tuple", data := .seq #[.int i (k + 1), .str ⟨#[c]⟩ k] }).get? b = some o := fun b o x y z =>
    Heap.get?_push_of_some _ (((b3'.2 b x).trans ((b2'.2 b x).trans (b1'.2 b y))).trans z)
  have i4 : (h3.push { cls := .type "tuple", data := .seq #[.int i (k + 1), .str ⟨#[c]⟩ k] }).IsStrIter it (strIterType x) x t (i + 1) := by
    obtain ⟨o, ho, r⟩ := i1
    exact ⟨o, Heap.get?_push_of_some _ (((b3'.2 it (Ne.symm hne)).trans (b2'.2 it (Ne.symm hne))).trans ho), r⟩
  have lt4 : e < hp.objs.size := Heap.lt_size he
  generalize h3.push { cls := .type "tuple", data := .seq #[.int i (k + 1), .str ⟨#[c]⟩ k] } = h4 at *
  show wpAny _ _ (Builtin.SmallTypes.ownedTupleIsFree (.ref e) >>= _) _ _ _
  refine wpAny_bind ?_
  unfold Builtin.SmallTypes.ownedTupleIsFree
  refine wpAny_bind (wpAny_field (s := ⟨h4, G, dr, k + 2, os⟩) e4 rfl (x := .none) rfl (wpAny_pure ?_))
  simp only [if_true]
  refine wpAny_bind (wpAny_rule (wpAny_bind (wpAny_field (s := ⟨h4, G, dr, k + 2, os⟩) e4 rfl (x := old) rfl ?_)))
  refine wpAny_bind (wpAny_setField_rec (s := ⟨h4, G, dr, k + 2, os⟩) (x := .str ⟨#[c]⟩ k) (k := 5) e4 (by simp) fun h5 e5 b5 => ?_)
  replace e5 : IsEnum h5 e it ((i : Int) + 1) (.str ⟨#[c]⟩ k) := e5
  show wpAny _ _ (Builtin.SmallTypes.ownedTupleHandOut (.ref e) (.ref hp.objs.size) >>= _) _ _ _
  refine wpAny_bind ?_
  unfold Builtin.SmallTypes.ownedTupleHandOut
  refine wpAny_bind (wpAny_setField_rec (s := ⟨h5, G, dr, k + 2, os⟩) (x := rawInt hp.objs.size) (k := 0) e5 (by simp) fun h6 e6 b6 => ?_)
  replace e6 : IsEnumOut h6 e it ((i : Int) + 1) (.str ⟨#[c]⟩ k) hp.objs.size := e6
  refine wpAny_setField_rec (s := ⟨h6, G, dr, k + 2, os⟩) (x := .bool false) (k := 1) e6 (by simp) fun h7 e7 b7 => ?_
  replace e7 : IsEnumOut h7 e it ((i : Int) + 1) (.str ⟨#[c]⟩ k) hp.objs.size := e7
  have far : ∀ b o, b ≠ e → h4.get? b = some o → h7.get? b = some o := fun b o q z => ((b7.2 b q).trans ((b6.2 b q).trans (b5.2 b q))).trans z
  refine wpAny_bind (wpAny_letGo (wpAny_pure ?_))
  refine ⟨_, rfl, wpAny_pure (hQ h7 _ _ rfl rfl e7 ?_ ?_ ?_)⟩
  · obtain ⟨o, ho, r⟩ := i4
    exact ⟨o, far _ _ (Ne.symm hne) ho, r⟩
  · exact ⟨_, far _ _ (Nat.ne_of_gt lt4) t4, rfl, _, rfl⟩
  · exact fun b o p q z => far b o p (k4 b o p q z)

/-- a text's iterator at the text's end: it stays an object -/
theorem iterStop {it : Addr} {x : Str} {t : Tok} {i : Nat} {o : Obj} {QQ : Fin → Shared → Prop} (wide : Bool) (hh : A.handled = none) (ho : s.heap.get? it = some o) (hd : o.data = .fields #[.str x t, .int i 0]) (hx : x.cps[i]? = none)
    (hE : ∀ h' e, (∀ b o, b ≠ it → s.heap.get? b = some o → h'.get? b = some o) → (∃ o, h'.get? it = some o) → (∃ o, h'.get? e = some o ∧ o.cls = .type "StopIteration") → E (.ref e) { s with heap := h' }) :
    wpAny (model prog w) A ((if wide then Builtin.«str_iterator.__next__» else Builtin.«str_ascii_iterator.__next__») ⟨[.ref it], []⟩) QQ E s := by
  cases wide <;> (
    refine wpAny_bind (m := field (.ref it) 0) (wpAny_field ho hd (x := .str x t) rfl ?_)
    refine wpAny_bind (m := field (.ref it) 1) (wpAny_field ho hd (x := .int i 0) rfl ?_)
    simp only [Int.toNat_natCast, hx]
    refine wpAny_bind (wpAny_rule (wpAny_bind (wpAny_setField ho hd (by simp) (wpAny_bind (wpAny_letGo ?_)))))
    refine wpAny_bind (m := newExc (.type "StopIteration") []) ?_
    unfold newExc newTuple
    refine wpAny_bind (wpAny_newObj_type ?_ (by size_fits))
    refine wpAny_bind (m := firstArgMember _ _) (wpAny_of_eq (a := Value.none) (by first | rfl | (simp only [firstArgMember]; rfl)) (wpAny_newObj_type ?_ (by size_fits)))
    unfold raiseNew
    refine wpAny_bind (wpAny_handled ?_)
    rw [hh]
    refine wpAny_bind (wpAny_pure (wpAny_throw ?_))
    have fr : (Obj.mapFields (·.setIfInBounds 0 Value.none) o).isFreed = false := by
      obtain ⟨c, d, dt, sl⟩ := o
      simp only at hd
      subst hd
      rfl
    exact hE _ _ (((Heap.SameBut.update ..).extBut.push _).push _) ⟨_, Heap.get?_push_of_some _ (Heap.get?_push_of_some _ (Heap.get?_update_self _ ho fr))⟩ ⟨_, Heap.get?_push_size _ rfl, rfl⟩)

/-- and enumerate at the text's end -/
theorem enumTextEnd {e it : Addr} {x : Str} {t : Tok} {i : Nat} {old : Value} {Q : Option Value → Shared → Prop} (hh : A.handled = none)
    (he : IsEnum s.heap e it i old) (hit : s.heap.IsStrIter it (strIterType x) x t i) (hx : i = x.cps.size)
    (hQ : ∀ h' oi, h'.get? it = some oi → (∀ b o, b ≠ it → s.heap.get? b = some o → h'.get? b = some o) → Q none { s with heap := h' }) : wpAny (model prog w) A (pyNext (.ref e)) Q E s := by
  have hx' : x.cps[i]? = none := by subst hx; simp
  obtain ⟨o, ho, hc, hd⟩ := id hit
  have stop : ∀ (A : Around) (E : Value → Shared → Prop) (Q : Value → Shared → Prop), A.handled = none →
      (∀ h' e, (∀ b o, b ≠ it → s.heap.get? b = some o → h'.get? b = some o) → (∃ o, h'.get? it = some o) → (∃ o, h'.get? e = some o ∧ o.cls = .type "StopIteration") → E (.ref e) { s with heap := h' }) →
      wpAny (model prog w) A (Builtin.SmallTypes.nextOf (.ref it)) Q E s := by
    intro A E Q hh h
    unfold Builtin.SmallTypes.nextOf
    unfold strIterType at hit
    split at hit
    · exact wpAny_bind (wpAny_callSpecial?_slot (name := Str.ofString "__next__") hit.typeIs F.slot_str_ascii_iterator_next
        (wpAny_call_entry F.slot_str_ascii_iterator_next hit.typeIs F.entry_str_ascii_iterator_next (iterStop (A := A.in1) false hh ho hd hx' h) (F.args_str_ascii_iterator_next_1 _)))
    · exact wpAny_bind (wpAny_callSpecial?_slot (name := Str.ofString "__next__") hit.typeIs F.slot_str_iterator_next
        (wpAny_call_entry F.slot_str_iterator_next hit.typeIs F.entry_str_iterator_next (iterStop (A := A.in1) true hh ho hd hx' h) (F.args_str_iterator_next_1 _)))
  have kind : s.TypeIs (.ref e) "enumerate" := ⟨_, he, rfl⟩
  unfold pyNext
  refine wpAny_bind (wpAny_attempt (wpAny_callSpecial?_slot (name := Str.ofString "__next__") kind F.slot_enumerate_next
    (wpAny_call_entry F.slot_enumerate_next kind F.entry_enumerate_next ?_ (F.args_enumerate_next_1 _))))
  refine wpAny_bind (m := field (.ref e) 2) (wpAny_field he rfl (x := .ref it) rfl (wpAny_bind (stop _ _ _ hh fun h' e' k ⟨oi, hoi⟩ ⟨oe, he', hc'⟩ => ?_)))
  exact wpAny_bind (wpAny_isInstance (T := "StopIteration") (b := true) ⟨oe, he', hc'⟩ isSubtype_stop (wpAny_pure (hQ h' oi hoi k)))
theorem drawsText (hh : A.handled = none) (it : Addr) (x : Str) (t : Tok) :
    Draws prog w A it [it] x.cps.size (fun i v => ∃ c u, x.cps[i]? = some c ∧ v = .str ⟨#[c]⟩ u) (fun i h => h.IsStrIter it (strIterType x) x t i) := by
  unfold strIterType
  split
  · exact Draws.strAscii hh it x t
  · exact Draws.strWide hh it x t
end
end PartB9
end Mine

namespace Mine
section PartB10
open PySem PySem.W PySem.Calls PyProof.Rows
local macro_rules | `(tactic| walk_at "eval Name") => `(tactic| (k_here; k_dflt (refine' ld ?k1 ?k2 ?_; (case k1 => k_asm); (case k2 => assumption); k_whole)))
local macro_rules | `(tactic| walk_at "binaryOp Add str str") => `(tactic| (k_dflt (refine addS (by first | decide | exact Nat.succ_ne_zero _) (by first | decide | exact Nat.succ_ne_zero _) (by exact Nat.le_of_ble_eq_true rfl) ?_)))
theorem fillK10 (w : World) : PySem.Challenge.rw_ux0008_01 = PySem.Challenge.rw_ux0008_01 ∧ Mine.hd.heap_39 w.params = Mine.hd.heap_39 w.params := by
  k_fill
  exact ⟨rfl, rfl⟩

/-- what _iter_escaped_chars gives: the signs that are left, the next place, whether a backslash stands behind -/
def escs : List Nat → Nat → Bool → List (Nat × Str)
  | [], i, true => [(i - 1, Str.ofString "\\")]
  | [], _, false => []
  | c :: r, i, true => (i, Str.ofString "\\" ++ ⟨#[c]⟩) :: escs r (i + 1) false
  | c :: r, i, false => if (⟨#[c]⟩ : Str) == Str.ofString "\\" then escs r (i + 1) true else (i, ⟨#[c]⟩) :: escs r (i + 1) false

abbrev ItemP (items : List (Nat × Str)) (B : Nat) : Nat → Value → Heap → Prop := fun i v h =>
  ∃ T tp tu p u, items[i]? = some (p, u) ∧ v = .ref T ∧ IsTup h T #[.int (p : Nat) tp, .str u tu] ∧ B ≤ tu

structure SinceG (Lg e it : Addr) (s₀ s : Shared) : Prop where
  keep : ∀ b o, b ≠ Lg → b ≠ e → b ≠ it → s₀.heap.get? b = some o → s.heap.get? b = some o
  gens : s.gens = s₀.gens
  drawn : s.drawn = s₀.drawn
  os : s.os = s₀.os
  toks : s₀.toks ≤ s.toks

def YY (hb : Heap) (Lg e it : Addr) (items : List (Nat × Str)) : Protocol := fun m s₀ v s kap =>
  ∃ oL oe oi, s.heap.get? Lg = some oL ∧ s.heap.get? e = some oe ∧ s.heap.get? it = some oi ∧ SinceG Lg e it s₀ s ∧
    ItemP items s₀.toks (items.length - 1 - m) v s.heap ∧
    ∀ s'', Old hb s''.heap → s''.heap.get? Lg = some oL → s''.heap.get? e = some oe → s''.heap.get? it = some oi → kap (.send .none) s''
abbrev RP (Lg e it : Addr) : Nat → Shared → Shared → Prop := fun n s₀ s₁ => n = 0 ∧ SinceG Lg e it s₀ s₁
abbrev RR (Lg e it : Addr) : GenEnd := fun n s₀ r s₁ => r = .ok (.ret .none) ∧ RP Lg e it n s₀ s₁

def SG (prog : Program) (w : World) (A : Around) (hb : Heap) (a Lg : Addr) (oa : Obj) (m₀ : Str → Option Value) (items : List (Nat × Str)) (G₀ : Array GenState) (c : Code) : Nat → Own → Array GenState → Prop
  | 0 => fun own G => ∃ oL, own = [(a, oa), (Lg, oL)] ∧ (∀ h : Heap, h.get? Lg = some oL → h.Ns Lg m₀) ∧ a ≠ Lg ∧ G = G₀.push (.fresh c)
  | i + 1 => fun own G => ∃ e it oL oe oi gs, own = [(a, oa), (Lg, oL), (e, oe), (it, oi)] ∧ a ≠ Lg ∧ a ≠ e ∧ a ≠ it ∧ hb.get? e = none ∧ hb.get? it = none ∧ G = G₀.push gs ∧
      ∀ s'' : Shared, Old hb s''.heap → s''.heap.get? Lg = some oL → s''.heap.get? e = some oe → s''.heap.get? it = some oi →
        gs.Goes (model prog w) A.in1 (RR Lg e it) (YY hb Lg e it items) (items.length - (i + 1)) (.send .none) s''

theorem push_set {G : Array GenState} {x y : GenState} : (G.push x).setIfInBounds G.size y = G.push y := by
  apply Array.ext'
  simp [Array.toList_setIfInBounds]

section
variable {prog : Program} {w : World} {E : Value → Shared → Prop} {s : Shared} {K : Frag} {p : Program} {loose : List Str} {mean : ExcName → Option Value} {mg mb : Str → Option Value}
theorem enterG {A : Around} {Q : Value → Shared → Prop}
    {name qual : Str} {params : Arguments} {body : List Stmt} {scope : Scope} {dV kV doc pm cdv ct oc : Value} {an od : Option Addr} {osl : Array (Option Value)} {f : Addr} {args : List Value} {binds : List (Str × Value)}
    (X : K.In s.heap) (T : Top p loose mean mg mb s.heap)
    (ho : K.lookup f = some ⟨oc, od, .func (fnOf name qual params body scope dV kV doc pm an cdv ct), osl⟩) (hcd : codeIn K cdv qual = true) (hroom : A.depth < recursionLimit)
    (hbind : bindArgs (fnOf name qual params body scope dV kV doc pm an cdv ct) ⟨args, []⟩ = pure binds) (hloc : (binds.all fun x => decide (scope.names.lookup x.1 = some .local)) = true)
    (hcell : (scope.names.all fun x => decide (x.2 ≠ .cell)) = true)
    (h : ∀ h₁ h₂ tk t1 t2, s.toks ≤ tk → h₁.Ns s.heap.objs.size (fun y => binds.reverse.lookup y) → Old s.heap h₁ → h₁.objs.size = s.heap.objs.size + 1 →
      h₂ = h₁.push { cls := .type "generator", data := .fields #[.int s.gens.size 0, .str name t1, .str qual t2] } →
      Q (.ref (s.heap.objs.size + 1)) { s with heap := h₂, gens := s.gens.push (.fresh (.func body (envOf qual scope s.heap.objs.size f cdv))), toks := tk })
    (hco : scope.isCoroutine = false) (hgen : scope.isGenerator = true) (hk : scope.kind = .function) :
    wpAny (model prog w) A (call (.ref f) args) Q E s := by
  refine wpAny_call (codeAny_call_generator (fd := fnOf name qual params body scope dV kV doc pm an cdv ct) (body := body) hroom (X _ _ ho) rfl hco hgen rfl (codeRec_of X hcd) ?_)
  rw [hbind]
  refine wpAny_pure (wpAny_newFunctionEnv (fun x hx => of_decide_eq_true (List.all_eq_true.mp hcell x hx)) (locs hloc) (fun h' hns hsb => ?_) hk)
  have hold : Old s.heap h' := fun b o e => hsb.extBut b o (Nat.ne_of_lt (Heap.lt_size e)) (Heap.get?_push_of_some _ e)
  have hsz : h'.objs.size = s.heap.objs.size + 1 := by rw [hsb.1]; exact Heap.size_push ..
  refine ⟨T.nolimit.fresh _ hsb, ?_⟩
  have := h h' _ (s.toks + binds.length + 1 + 1) (s.toks + binds.length) (s.toks + binds.length + 1) (by omega) hns hold hsz rfl
  show Q (.ref h'.objs.size) _
  rw [hsz]
  exact this

/-- a turning principle for a generator's loop -/
theorem segInd {A : Around} {R : GenEnd} {Y : Protocol} {fs : List Frame} {target : Expr} {it : Value} {body : List Stmt} {env : Env} {N : Nat} (cnt : Nat → Bool → Nat) (Inv : Nat → Bool → Shared → Shared → Prop)
    (turn : ∀ i b s₀ s, i < N → Inv i b s₀ s → (∀ b' s₀' s', Inv (i + 1) b' s₀' s' → Seg (model prog w) A R Y (cnt (i + 1) b') s₀' (.forLoop target it body [] env) ((model prog w).den (.forLoop target it body [] env)) fs s') →
      Seg (model prog w) A R Y (cnt i b) s₀ (.forLoop target it body [] env) ((model prog w).den (.forLoop target it body [] env)) fs s)
    (fin : ∀ b s₀ s, Inv N b s₀ s → Seg (model prog w) A R Y (cnt N b) s₀ (.forLoop target it body [] env) ((model prog w).den (.forLoop target it body [] env)) fs s) :
    ∀ k i b s₀ s, N - i = k → i ≤ N → Inv i b s₀ s → Seg (model prog w) A R Y (cnt i b) s₀ (.forLoop target it body [] env) ((model prog w).den (.forLoop target it body [] env)) fs s := by
  intro k
  induction k with
  | zero => intro i b s₀ s hk hi hI; (obtain rfl : i = N := (by omega)); exact fin b s₀ s hI
  | succ k ih => intro i b s₀ s hk hi hI; exact turn i b s₀ s (by omega) hI fun b' s₀' s' hI' => ih (i + 1) b' s₀' s' (by omega) (by omega) hI'

theorem goGen {A : Around} {elts : List Expr} {k : Nat} {px : Pos} {a : Addr} {o : Obj} {v : Value} {xs : Array Value} {Q : Unit → Shared → Prop} (ho : s.heap.get? a = some o) (hc : o.cls = .type "generator") (hd : o.data = .fields xs) (h : Q () s) :
    wpAny (model prog w) A (letOwnedTupleGo (.Tuple elts k px) (.ref a) v) Q E s := by
  unfold letOwnedTupleGo
  cases v with
  | ref T =>
    refine wpAny_bind (wpAny_load ho ?_)
    rw [hc, hd]
    show wpAny _ A (if (["enumerate", "zip", "dict_itemiterator", "dict_reverseitemiterator", "odict_iterator", "itertools.zip_longest", "itertools.pairwise"].contains "generator" && xs[0]? == some (rawInt T)) = true then _ else _) Q E s
    rw [if_neg (by simp)]
    exact wpAny_pure h
  | _ => exact wpAny_pure h

theorem since_state {Lg e it : Addr} {s s₁ : Shared} {G : Array GenState} {gs gs' : GenState} (S : SinceG Lg e it (s.setGen G.size gs) s₁) (hG : ∃ x, s.gens = G.push x) :
    s₁.setGen G.size gs' = { s with heap := s₁.heap, gens := G.push gs', toks := s₁.toks } := by
  obtain ⟨x, hG⟩ := hG
  obtain ⟨h, g, d, k, o⟩ := s
  obtain ⟨h1, g1, d1, k1, o1⟩ := s₁
  obtain ⟨_, a, b, c, _⟩ := S
  simp only [Shared.setGen] at a b c ⊢
  simp only at hG
  subst hG
  rw [push_set] at a
  subst a; subst b; subst c
  rw [push_set]

theorem genTurn {A : Around} {hb : Heap} {a Lg e it : Addr} {oa : Obj} {xs : Array Value} {m₀ : Str → Option Value} {items : List (Nat × Str)} {G₀ : Array GenState} {c : Code} {gs : GenState} {i m tk0 : Nat} {own : Own} {elts : List Expr} {k : Nat} {px : Pos} {Q : Value → Shared → Prop}
    (hh : A.handled = none) (hroom : A.depth < recursionLimit) (hoc : oa.cls = .type "generator") (hod : oa.data = .fields xs) (hgen : s.heap.IsGen a G₀.size)
    (hm : items.length - i = m + 1) (hi : i < items.length) (nL : a ≠ Lg) (ne : a ≠ e) (ni : a ≠ it) (hG : s.gens = G₀.push gs) (ha : s.heap.get? a = some oa) (hbe : hb.get? e = none) (hbi : hb.get? it = none) (hlim : s.heap.NoLimit) (htk : tk0 ≤ s.toks)
    (hgo : gs.Goes (model prog w) A.in1 (RR Lg e it) (YY hb Lg e it items) (m + 1) (.send .none) (s.setGen G₀.size .running))
    (hown : ∀ b, b = a ∨ b = Lg ∨ b = e ∨ b = it → (∃ q ∈ own, q.1 = b) ∨ s.heap.get? b = none)
    (hQ : ∀ v own' h' tk G', s.toks ≤ tk → SG prog w A hb a Lg oa m₀ items G₀ c (i + 1) own' G' → Holds own' h' → Moves own own' s.heap h' → ItemP items tk0 i v h' → Q v { s with heap := h', gens := G', toks := tk }) :
    wpAny (model prog w) A (pyNext (.ref a)) (fun r s₁ => ∃ v, r = some v ∧ wpAny (model prog w) A (letOwnedTupleGo (.Tuple elts k px) (.ref a) v) (fun _ s₂ => Q v s₂) NoE s₁) NoE s := by
  have off : ∀ b o, s.heap.get? b = some o → (∀ p ∈ own, p.1 ≠ b) → b ≠ Lg ∧ b ≠ e ∧ b ≠ it := by
    intro b o ho hp
    refine ⟨?_, ?_, ?_⟩
    · rintro rfl; rcases hown _ (.inr (.inl rfl)) with ⟨q, hq, e'⟩ | h
      · exact hp q hq e'
      · rw [h] at ho; cases ho
    · rintro rfl; rcases hown _ (.inr (.inr (.inl rfl))) with ⟨q, hq, e'⟩ | h
      · exact hp q hq e'
      · rw [h] at ho; cases ho
    · rintro rfl; rcases hown _ (.inr (.inr (.inr rfl))) with ⟨q, hq, e'⟩ | h
      · exact hp q hq e'
      · rw [h] at ho; cases ho
  have hgs : s.gens[G₀.size]? = some gs := by rw [hG]; simp
  refine wpAny_pyNext_gen (P := RP Lg e it) (Y := YY hb Lg e it items) (n := m + 1) hh hlim hroom hgen hgs hgo ?_ ?_
  · rintro v s₁ gs' ⟨oL, oe, oi, h1, h2, h3, S, hI, hk⟩
    have ha₁ : s₁.heap.get? a = some oa := S.keep a oa nL ne ni ha
    refine ⟨v, rfl, goGen (s := s₁.setGen G₀.size gs') ha₁ hoc hod ?_⟩
    rw [since_state S ⟨_, hG⟩]
    have hidx : items.length - 1 - (m + 1 - 1) = i := by omega
    rw [hidx] at hI
    have hrest : items.length - (i + 1) = m := by omega
    refine hQ v [(a, oa), (Lg, oL), (e, oe), (it, oi)] _ _ _ S.toks ⟨e, it, oL, oe, oi, gs', rfl, nL, ne, ni, hbe, hbi, rfl, fun s'' O'' l1 l2 l3 => ?_⟩ ?_ ⟨fun b o hp ho => ?_, fun p hp => ?_⟩ ?_
    · rw [hrest]; exact hk s'' O'' l1 l2 l3
    · intro p hp
      rcases List.mem_cons.mp hp with rfl | hp
      · exact ha₁
      rcases List.mem_cons.mp hp with rfl | hp
      · exact h1
      rcases List.mem_cons.mp hp with rfl | hp
      · exact h2
      rw [List.mem_singleton.mp hp]; exact h3
    · obtain ⟨q1, q2, q3⟩ := off b o ho hp
      exact S.keep b o q1 q2 q3 ho
    · refine hown p.1 ?_
      rcases List.mem_cons.mp hp with rfl | hp
      · exact .inl rfl
      rcases List.mem_cons.mp hp with rfl | hp
      · exact .inr (.inl rfl)
      rcases List.mem_cons.mp hp with rfl | hp
      · exact .inr (.inr (.inl rfl))
      rw [List.mem_singleton.mp hp]; exact .inr (.inr (.inr rfl))
    · obtain ⟨T, tp, tu, p, u', a1, a2, a3, a4⟩ := hI
      exact ⟨T, tp, tu, p, u', a1, a2, a3, Nat.le_trans htk a4⟩
  · rintro s₁ ⟨h0, _⟩
    cases h0

theorem genEnd {A : Around} {hb : Heap} {a Lg e it : Addr} {oL oe oi : Obj} {items : List (Nat × Str)} {G₀ : Array GenState} {gs : GenState} {own : Own} {Q : Shared → Prop}
    (hh : A.handled = none) (hroom : A.depth < recursionLimit) (hgen : s.heap.IsGen a G₀.size)
    (hG : s.gens = G₀.push gs) (O : ∀ b o, hb.get? b = some o → s.heap.get? b = some o) (hbn : hb.get? Lg = none ∧ hb.get? e = none ∧ hb.get? it = none) (hlim : s.heap.NoLimit)
    (hgo : gs.Goes (model prog w) A.in1 (RR Lg e it) (YY hb Lg e it items) 0 (.send .none) (s.setGen G₀.size .running))
    (hown : (Lg, oL) ∈ own ∧ (e, oe) ∈ own ∧ (it, oi) ∈ own)
    (hQ : ∀ h' tk G', s.toks ≤ tk → G' = G₀.push .finished → Moves own [] s.heap h' → Q { s with heap := h', gens := G', toks := tk }) :
    wpAny (model prog w) A (pyNext (.ref a)) (fun r s₁ => r = none ∧ Q s₁) NoE s := by
  have hgs : s.gens[G₀.size]? = some gs := by rw [hG]; simp
  refine wpAny_pyNext_gen (P := RP Lg e it) (Y := YY hb Lg e it items) (n := 0) hh hlim hroom hgen hgs hgo ?_ ?_
  · rintro v s₁ gs' ⟨oL, oe, oi, h1, h2, h3, S, hI, hk⟩
    refine (hk s₁ (fun b o ho => S.keep b o ?_ ?_ ?_ (O b o ho)) h1 h2 h3).elim
    · rintro rfl; rw [hbn.1] at ho; cases ho
    · rintro rfl; rw [hbn.2.1] at ho; cases ho
    · rintro rfl; rw [hbn.2.2] at ho; cases ho
  · rintro s₁ ⟨_, S⟩ h' hk
    refine ⟨rfl, ?_⟩
    have e1 : ({ s₁.setGen G₀.size .finished with heap := h' } : Shared) = { s with heap := h', gens := G₀.push .finished, toks := s₁.toks } := by
      have := since_state (gs' := .finished) S ⟨_, hG⟩
      rw [this]
    rw [e1]
    refine hQ h' s₁.toks _ S.toks rfl ⟨fun b o hp ho => hk b o (S.keep b o ?_ ?_ ?_ ho), fun _ h => nomatch h⟩
    · exact fun e' => hp _ hown.1 e'.symm
    · exact fun e' => hp _ hown.2.1 e'.symm
    · exact fun e' => hp _ hown.2.2 e'.symm

theorem iterEnum {A : Around} {e it : Addr} {x : Str} {t : Tok} {old : Value} {Q : Value → Shared → Prop} {i : Nat} (hh : A.handled = none) (he : IsEnum s.heap e it i old) (hit : s.heap.IsStrIter it (strIterType x) x t i) (hne : e ≠ it) (h : Q (.ref e) s) :
    wpAny (model prog w) A (pyIter (.ref e)) Q E s :=
  (WalksT.enumerateD (drawsText (prog := prog) (w := w) (A := A.in1) hh it x t) e hne (by intro h; exact hne (List.mem_singleton.mp h)) (.head _)).self i s Q E ⟨⟨old, he⟩, hit⟩ h

/-- between two turns of the generator's loop -/
structure GInv (hb : Heap) (Lg e it : Addr) (x : Str) (t : Tok) (i : Nat) (b : Bool) (s₀ s : Shared) : Prop where
  fr : ∃ m, Fr hb Lg s.heap m ∧ m (Str.ofString "escape") = some (.bool b) ∧ (0 < i → ∃ tp, m (Str.ofString "pos") = some (.int ((i - 1 : Nat) : Int) tp))
  pos : b = true → 0 < i
  enum : ∃ old, IsEnum s.heap e it i old
  iter : s.heap.IsStrIter it (strIterType x) x t i
  since : SinceG Lg e it s₀ s
  pre : ∃ pre, escs x.cps.toList 0 false = pre ++ escs (x.cps.toList.drop i) i b

theorem restNews {hb h : Heap} {Lg e it : Addr} {oe oi : Obj} (he : h.get? e = some oe) (hi : h.get? it = some oi) (hbe : hb.get? e = none) (hbi : hb.get? it = none) (ne : e ≠ Lg) (ni : it ≠ Lg) :
    ∃ rest, News hb Lg h ((e, oe) :: (it, oi) :: rest) ∧ ∀ b o, h.get? b = some o → b ≠ Lg → hb.get? b = none → (b, o) ∈ rest := by
  have hL : Lg ∉ (List.range h.objs.size).filter (fun b => decide (b ≠ Lg)) := fun hm => by simpa using (List.mem_filter.mp hm).2
  refine ⟨PyProof.Rows.ownOf hb ((List.range h.objs.size).filter (fun b => decide (b ≠ Lg))) h, ?_, ?_⟩
  · intro p hp
    rcases List.mem_cons.mp hp with rfl | hp
    · exact ⟨he, ne, hbe⟩
    rcases List.mem_cons.mp hp with rfl | hp
    · exact ⟨hi, ni, hbi⟩
    exact news_ownOf hL p hp
  · intro b o ho hn hbn
    exact mem_ownOf (List.mem_filter.mpr ⟨List.mem_range.mpr (Heap.lt_size ho), by simpa using hn⟩) hbn ho
theorem keepOf {hb h h' : Heap} {Lg : Addr} {m : Str → Option Value} {rest news : Own} (hr : ∀ b o, h.get? b = some o → b ≠ Lg → hb.get? b = none → (b, o) ∈ rest) (O : Old hb h) (F : Fr hb Lg h' m) (N : News hb Lg h' news) (hs : ∀ p ∈ rest, p ∈ news) :
    ∀ b o, b ≠ Lg → h.get? b = some o → h'.get? b = some o := by
  intro b o hn ho
  cases hbb : hb.get? b with
  | none => exact (N _ (hs _ (hr b o ho hn hbb))).1
  | some o' => have := O b o' hbb; rw [ho] at this; rw [Option.some.inj this]; exact F.keep b o' hbb

theorem yieldY {hb : Heap} {Lg e it D : Addr} {items : List (Nat × Str)} {s₀ s₁ s : Shared} {h7 : Heap} {m' : Str → Option Value} {oe oi : Obj} {rest : Own} {kap : Resume → Shared → Prop} {pre post : List (Nat × Str)} {p n : Nat} {u : Str} {tp tu : Tok}
    (hS : SinceG Lg e it s₀ s₁) (keep7 : ∀ b o, b ≠ e → b ≠ it → s₁.heap.get? b = some o → h7.get? b = some o) (O7 : Old hb h7)
    (hr : ∀ b o, h7.get? b = some o → b ≠ Lg → hb.get? b = none → (b, o) ∈ rest) (F : Fr hb Lg s.heap m') (N : News hb Lg s.heap ((D, { cls := .type "tuple", data := .seq #[.int (p : Nat) tp, .str u tu] }) :: (e, oe) :: (it, oi) :: rest))
    (hg : s.gens = s₁.gens) (hd : s.drawn = s₁.drawn) (hos : s.os = s₁.os) (htk : s₁.toks ≤ s.toks) (htu : s₁.toks ≤ tu) (hitems : items = pre ++ (p, u) :: post) (hn : n = post.length)
    (hk : ∀ s'' : Shared, Old hb s''.heap → Fr hb Lg s''.heap m' → s''.heap.get? e = some oe → s''.heap.get? it = some oi → kap (.send .none) s'') :
    YY hb Lg e it items n s₀ (.ref D) s kap := by
  obtain ⟨oL, es, ep, hoL, hns⟩ := F.ns
  refine ⟨oL, oe, oi, hoL, (N _ (.tail _ (.head _))).1, (N _ (.tail _ (.tail _ (.head _)))).1, ⟨fun b o p q r ho => ?_, hg.trans hS.gens, hd.trans hS.drawn, hos.trans hS.os, Nat.le_trans hS.toks htk⟩,
    ⟨D, tp, tu, p, u, ?_, rfl, ⟨_, (N _ (.head _)).1, rfl, _, rfl⟩, Nat.le_trans hS.toks htu⟩, fun s'' O'' l1 l2 l3 => hk s'' O'' ⟨⟨oL, es, ep, l1, hns⟩, O'', F.above⟩ l2 l3⟩
  · exact keepOf hr O7 F N (fun p hp => .tail _ (.tail _ (.tail _ hp))) b o p (keep7 b o q r (hS.keep b o p q r ho))
  · have : items.length - 1 - n = pre.length := by rw [hitems, hn, List.length_append, List.length_cons]; omega
    rw [this, hitems, List.getElem?_append_right (Nat.le_refl _), Nat.sub_self]; rfl
theorem ginvOf {hb : Heap} {Lg e it : Addr} {x : Str} {t : Tok} {i : Nat} {b : Bool} {s'' s : Shared} {m : Str → Option Value} {old : Value} {oi : Obj} {rest : Own} {tp : Tok}
    (O : Old hb s''.heap) (hr : ∀ b o, s''.heap.get? b = some o → b ≠ Lg → hb.get? b = none → (b, o) ∈ rest) (F : Fr hb Lg s.heap m)
    (N : News hb Lg s.heap ((e, { cls := .type "enumerate", dict := none, data := .fields #[.none, .bool false, .ref it, rawInt ((i : Int) + 1), .none, old], slots := #[] }) :: (it, oi) :: rest))
    (hi : oi.cls = .type (strIterType x) ∧ oi.data = .fields #[.str x t, .int ((i + 1 : Nat) : Int) 0])
    (me : m (Str.ofString "escape") = some (.bool b)) (mp : m (Str.ofString "pos") = some (.int (i : Nat) tp)) (hg : s.gens = s''.gens) (hd : s.drawn = s''.drawn) (hos : s.os = s''.os) (htk : s''.toks ≤ s.toks)
    (hpre : ∃ pre, escs x.cps.toList 0 false = pre ++ escs (x.cps.toList.drop (i + 1)) (i + 1) b) : GInv hb Lg e it x t (i + 1) b s'' s where
  fr := ⟨m, F, me, fun _ => ⟨tp, mp⟩⟩
  pos := fun _ => Nat.succ_pos _
  enum := ⟨old, by have := (N _ (.head _)).1; simpa using this⟩
  iter := ⟨oi, (N _ (.tail _ (.head _))).1, hi.1, hi.2⟩
  since := ⟨fun b o p _ _ ho => keepOf hr O F N (fun p hp => .tail _ (.tail _ hp)) b o p ho, hg, hd, hos, htk⟩
  pre := hpre

theorem ginvTrans {hb h7 : Heap} {Lg e it : Addr} {x : Str} {t : Tok} {i : Nat} {b : Bool} {s₀ s₁ s : Shared} (hS : SinceG Lg e it s₀ s₁) (keep7 : ∀ b o, b ≠ e → b ≠ it → s₁.heap.get? b = some o → h7.get? b = some o)
    (G : GInv hb Lg e it x t i b { s₁ with heap := h7 } s) : GInv hb Lg e it x t i b s₀ s :=
  ⟨G.fr, G.pos, G.enum, G.iter, ⟨fun b o p q r ho => G.since.keep b o p q r (keep7 b o q r (hS.keep b o p q r ho)), G.since.gens.trans hS.gens, G.since.drawn.trans hS.drawn, G.since.os.trans hS.os, Nat.le_trans hS.toks G.since.toks⟩, G.pre⟩

theorem escs_pos1 : ∀ (l : List Nat) (i : Nat), 0 < (escs l i true).length
  | [], _ => Nat.one_pos
  | _ :: _, _ => Nat.succ_pos _
theorem escs_pos : ∀ (l : List Nat) (i : Nat), 0 < l.length → 0 < (escs l i false).length
  | [], _, h => absurd h (Nat.lt_irrefl _)
  | c :: r, i, _ => by
    unfold escs
    split
    · exact escs_pos1 r (i + 1)
    · exact Nat.succ_pos _

theorem iter_c {d u : Nat} {fr : Option (List Env)} {gd : Option (List Code)} {Q : Value → Shared → Prop} {x : Str} {t : Tok} {hb : Heap} (hx : 0 < x.cps.size) (hroom : d + 3 < recursionLimit)
    (KX : (Mine.hd.heap_39 w.params).In hb) (T : Top Mine.hd.view_39 loose mean mg mb hb) (hob : Old hb s.heap) (hsz : hb.objs.size ≤ s.heap.objs.size)
    (hQ : ∀ (a : Addr) (S : Nat → Own → Array GenState → Prop) (own : Own) (s' : Shared),
      (∀ elts k px, ItOk prog w (Ar d u fr gd) (.Tuple elts k px) (.ref a) hb s.toks (escs x.cps.toList 0 false).length (ItemP (escs x.cps.toList 0 false) s.toks) S (· = s.gens.push .finished)) →
      S 0 own s'.gens → Holds own s'.heap → (∀ p ∈ own, s.heap.get? p.1 = none) → Old s.heap s'.heap → s'.os = s.os → s.toks ≤ s'.toks → s'.heap.IsGen a s.gens.size → s.heap.objs.size ≤ a → Q (.ref a) s') :
    wpAny (model prog w) (Ar d u fr gd) (call (.ref 77) [.str x t]) Q E s := by
  have hin : ∀ {h : Heap}, Old hb h → (Mine.hd.heap_39 w.params).In h := fun k => Frag.In.keeps KX k
  refine' enterG (binds := [(Str.ofString "addr", .str x t)]) (hin hob) (T.keeps hob) ?ho ?hcd ?hr ?hb ?hl ?hc ?_ ?h1 ?h2 ?h3
  case ho => k_is
  case hcd => k_is
  case hr => dsimp only; omega
  case hb => exact rfl
  case hl => rfl
  case hc => rfl
  case h1 => exact rfl
  case h2 => exact rfl
  case h3 => exact rfl
  intro h₁ h₂ tk t1 t2 htk hns hold hsz₁ he₂
  obtain ⟨oL, esL, epL, hoL, hns'⟩ := id hns
  have hLg : s.heap.get? s.heap.objs.size = none := by
    cases e : s.heap.get? s.heap.objs.size with
    | none => rfl
    | some o => exact absurd (Heap.lt_size e) (Nat.lt_irrefl _)
  have hA : s.heap.get? (s.heap.objs.size + 1) = none := by
    cases e : s.heap.get? (s.heap.objs.size + 1) with
    | none => rfl
    | some o => exact absurd (Heap.lt_size e) (Nat.not_lt.mpr (Nat.le_succ _))
  let oa : Obj := { cls := .type "generator", data := .fields #[.int s.gens.size 0, .str (Str.ofString "_iter_escaped_chars") t1, .str (Str.ofString "_iter_escaped_chars") t2] }
  have ha : h₂.get? (s.heap.objs.size + 1) = some oa := by
    rw [he₂, ← hsz₁]; exact Heap.get?_push_size _ rfl
  have hold₂ : Old h₁ h₂ := fun b o e => by rw [he₂]; exact Heap.get?_push_of_some _ e
  refine hQ _ (SG prog w (Ar d u fr gd) hb (s.heap.objs.size + 1) s.heap.objs.size oa (fun y => List.lookup y [(Str.ofString "addr", Value.str x t)].reverse) (escs x.cps.toList 0 false) s.gens _) [(s.heap.objs.size + 1, oa), (s.heap.objs.size, oL)] _ ?_ ⟨oL, rfl, ?_, Nat.succ_ne_self _, rfl⟩ ?_ ?_ (fun b o e => hold₂ b o (hold b o e)) rfl htk ⟨_, _, _, ha, rfl, rfl, rfl⟩ (Nat.le_succ _)
  · intro elts k px
    have hlen : 0 < (escs x.cps.toList 0 false).length := escs_pos _ _ (by simpa using hx)
    have hL0 : hb.objs.size ≤ s.heap.objs.size := hsz
    have hbL : hb.get? s.heap.objs.size = none := by
      cases e : hb.get? s.heap.objs.size with
      | none => rfl
      | some o => exact absurd (Heap.lt_size e) (Nat.not_lt.mpr hsz)
    refine ⟨?_, ?_⟩
    · intro i own s' Q' hi htk' hS H O hlim hQ'
      cases i with
      | zero =>
        obtain ⟨oL', rfl, hNs, hne, hG⟩ := hS
        have ha' := H _ (.head _)
        have hL' := H _ (.tail _ (.head _))
        have hal := Heap.lt_size ha'
        have hll := Heap.lt_size hL'
        have hnone : ∀ n, s'.heap.objs.size ≤ n → s'.heap.get? n = none := by
          intro n hn
          cases e : s'.heap.get? n with
          | none => rfl
          | some o => exact absurd (Heap.lt_size e) (Nat.not_lt.mpr hn)
        have hbf : ∀ n, s'.heap.objs.size ≤ n → hb.get? n = none := by
          intro n hn
          cases e : hb.get? n with
          | none => rfl
          | some o => have := O _ _ e; rw [hnone n hn] at this; cases this
        obtain ⟨m, hm⟩ : ∃ m, (escs x.cps.toList 0 false).length - 0 = m + 1 := ⟨(escs x.cps.toList 0 false).length - 1, by omega⟩
        refine genTurn (e := s'.heap.objs.size + 1) (it := s'.heap.objs.size) rfl (by dsimp only; omega) rfl rfl ⟨oa, _, _, ha', rfl, rfl, rfl⟩ hm hi hne (Nat.ne_of_lt (Nat.lt_succ_of_lt hal)) (Nat.ne_of_lt hal) hG ha' (hbf _ (Nat.le_succ _)) (hbf _ (Nat.le_refl _)) hlim htk' ⟨rfl, ?_⟩ ?_ hQ'
        · have F : Fr hb s.heap.objs.size (s'.setGen s.gens.size .running).heap (fun y => List.lookup y [(Str.ofString "addr", Value.str x t)].reverse) := ⟨hNs _ hL', O, hL0⟩
          have N : News hb s.heap.objs.size (s'.setGen s.gens.size .running).heap [] := News.nil
          have hm' : m + 1 = (escs (x.cps.toList.drop 0) 0 false).length := hm.symm
          rw [hm']
          refine seg_func (seg_execs_cons (seg_stmt (wpAny_Assign_Name (wpAny_Constant_int (wpAny_storeName_local rfl F.ns (fun h3 hn3 hs3 => ?_) rfl)) rfl)))
          have F3 := F.set hn3 hs3
          have z3 : h3.objs.size = s'.heap.objs.size := hs3.1
          refine seg_execs_cons (seg_stmt (wpAny_Assign_Name (Constant_bool (wpAny_storeName_local rfl F3.ns (fun h4 hn4 hs4 => ?_) rfl)) rfl))
          have F4 := F3.set hn4 hs4
          have z4 : h4.objs.size = s'.heap.objs.size := hs4.1.trans z3
          have N4 : News hb s.heap.objs.size h4 [] := News.nil
          clear N
          have hLe : s.heap.objs.size ≠ s'.heap.objs.size + 1 := Nat.ne_of_lt (Nat.lt_succ_of_lt hll)
          have hLi : s.heap.objs.size ≠ s'.heap.objs.size := Nat.ne_of_lt hll
          have hbe : ∀ b o, hb.get? b = some o → b ≠ s'.heap.objs.size + 1 := by
            rintro b o e rfl; have := O _ _ e; rw [hnone _ (Nat.le_succ _)] at this; cases this
          have hbi : ∀ b o, hb.get? b = some o → b ≠ s'.heap.objs.size := by
            rintro b o e rfl; have := O _ _ e; rw [hnone _ (Nat.le_refl _)] at this; cases this
          refine seg_execs_cons (seg_For ?_)
          iterate 6 (first | walk1 | (dsimp only; walk1))
          refine call_enumerate_str ?_
          intro h5 hE5 hI5 hz5 hk5
          dsimp only at hE5 hI5 hz5 hk5 ⊢
          rw [z4] at hE5 hI5 ⊢
          refine iterEnum rfl hE5 hI5 (Nat.succ_ne_self _) ?_
          intro p
          refine segInd (fun i b => (escs (x.cps.toList.drop i) i b).length) (fun i b s₀ s₁ => GInv hb s.heap.objs.size (s'.heap.objs.size + 1) s'.heap.objs.size x t i b s₀ s₁) ?_ ?_ x.cps.size 0 false _ _ rfl (Nat.zero_le _) ?_
          · rintro i b s₀ s₁ hi' ⟨⟨m₁, F₁, me, mp⟩, hpos, ⟨old, hE⟩, hI, hS, ⟨pre, hpre⟩⟩ IH
            have hc : x.cps[i]? = some x.cps[i] := Array.getElem?_eq_getElem hi'
            have hd : x.cps.toList.drop i = x.cps[i] :: x.cps.toList.drop (i + 1) := by rw [List.drop_eq_getElem_cons (by simpa using hi')]; simp
            rw [hd] at hpre ⊢
            generalize x.cps[i] = c at hc hd hpre ⊢
            refine seg_forLoop ?_
            refine enumTextNext hE hI hc (Nat.succ_ne_self _) ?_
            rintro h6 T' v hTe rfl hO6 hI6 hT6 hk6
            dsimp only
            refine wpAny_letOwnedTupleGo_enum hO6 ?_
            intro h7 hE7 hs7
            have hs7' : h7.objs.size = h6.objs.size ∧ ∀ b, b ≠ s'.heap.objs.size + 1 → h7.get? b = h6.get? b := hs7
            have keep7 : ∀ b o, b ≠ s'.heap.objs.size + 1 → b ≠ s'.heap.objs.size → s₁.heap.get? b = some o → h7.get? b = some o := fun b o p q r => (hs7'.2 b p).trans (hk6 b o p q r)
            have F7 : Fr hb s.heap.objs.size h7 m₁ := ⟨F₁.ns.at' fun o e => keep7 _ o hLe hLi e, fun b o e => keep7 b o (hbe b o e) (hbi b o e) (F₁.keep b o e), F₁.above⟩
            have T7 : IsTup h7 T' #[.int (i : Nat) (s₁.toks + 1), .str ⟨#[c]⟩ s₁.toks] := by
              obtain ⟨o, ho, r⟩ := hT6
              refine ⟨o, (hs7'.2 _ ?_).trans ho, r⟩
              intro q
              have := Heap.lt_size hE
              rw [← q, hTe] at this
              exact Nat.lt_irrefl _ this
            have I7 : h7.IsStrIter s'.heap.objs.size (strIterType x) x t (i + 1) := by
              obtain ⟨o, ho, r⟩ := hI6
              exact ⟨o, (hs7'.2 _ (Nat.ne_of_lt (Nat.lt_succ_self _))).trans ho, r⟩
            obtain ⟨oi7, gi7, ri7⟩ := id I7
            obtain ⟨rest, N7, hrest⟩ := restNews (hb := hb) (Lg := s.heap.objs.size) hE7 gi7 (by cases e : hb.get? (s'.heap.objs.size + 1) with | none => rfl | some o => exact absurd rfl (hbe _ _ e)) (by cases e : hb.get? s'.heap.objs.size with | none => rfl | some o => exact absurd rfl (hbi _ _ e)) hLe.symm hLi.symm
            have O7 : Old hb h7 := F7.keep
            k_steps
            refine seg_execs_cons (seg_If ?_)
            k_steps
            · rename_i h8 F8 N8 eb
              subst eb
              refine seg_execs_cons (seg_Expr_Yield (n := (escs (List.drop (i + 1) x.cps.toList) (i + 1) false).length) rfl rfl rfl ?_)
              k_steps
              rename_i D9 h9 F9 N9 l9 kap hk9
              refine yieldY hS keep7 O7 hrest F9 N9 rfl rfl rfl ?_ ?_ hpre rfl ?_
              · (try dsimp only); omega
              · (try dsimp only); omega
              · intro s2 O2 F2 e2 i2
                refine hk9 .none s2 ?_
                obtain ⟨rest2, N2, hr2⟩ := restNews (hb := hb) (Lg := s.heap.objs.size) e2 i2 ((N9 _ (.tail _ (.head _))).2.2) ((N9 _ (.tail _ (.tail _ (.head _)))).2.2) hLe.symm hLi.symm
                refine seg_execs_cons (seg_stmt ?_)
                k_steps
                rename_i h10 F10 N10
                refine seg_execs_nil (seg_again rfl (IH false s2 _ ?_))
                refine ginvOf O2 hr2 F10 N10 ri7 rfl rfl rfl rfl rfl ?_ ⟨pre ++ [(i, Str.ofString "\\" ++ ⟨#[c]⟩)], ?_⟩
                · (try dsimp only); omega
                · rw [hpre, List.append_assoc]; rfl
            · rename_i h8 F8 N8 eb
              subst eb
              refine seg_execs_cons (seg_If ?_)
              k_steps
              · rename_i hbs
                have ec : escs (c :: List.drop (i + 1) x.cps.toList) i false = escs (List.drop (i + 1) x.cps.toList) (i + 1) true := if_pos hbs
                rw [ec] at hpre ⊢
                refine seg_execs_cons (seg_stmt ?_)
                k_steps
                rename_i h10 F10 N10
                refine seg_execs_nil (seg_again rfl (IH true s₀ _ ?_))
                refine ginvTrans hS keep7 (ginvOf (s'' := { s₁ with heap := h7 }) O7 hrest F10 N10 ri7 rfl rfl rfl rfl rfl ?_ ⟨pre, hpre⟩)
                (try dsimp only); omega
              · rename_i hbs
                have ec : escs (c :: List.drop (i + 1) x.cps.toList) i false = (i, ⟨#[c]⟩) :: escs (List.drop (i + 1) x.cps.toList) (i + 1) false := if_neg (by rw [hbs]; exact Bool.false_ne_true)
                rw [ec] at hpre ⊢
                refine seg_execs_cons (seg_Expr_Yield (n := (escs (List.drop (i + 1) x.cps.toList) (i + 1) false).length) rfl rfl rfl ?_)
                k_steps
                rename_i D9 h9 F9 N9 l9 kap hk9
                refine yieldY hS keep7 O7 hrest F9 N9 rfl rfl rfl ?_ ?_ hpre rfl ?_
                · (try dsimp only); omega
                · (try dsimp only); omega
                · intro s2 O2 F2 e2 i2
                  refine hk9 .none s2 ?_
                  obtain ⟨rest2, N2, hr2⟩ := restNews (hb := hb) (Lg := s.heap.objs.size) e2 i2 ((N9 _ (.tail _ (.head _))).2.2) ((N9 _ (.tail _ (.tail _ (.head _)))).2.2) hLe.symm hLi.symm
                  refine seg_execs_nil (seg_again rfl (IH false s2 _ ?_))
                  refine ginvOf O2 hr2 F2 N2 ri7 me rfl rfl rfl rfl ?_ ⟨pre ++ [(i, ⟨#[c]⟩)], ?_⟩
                  · (try dsimp only); omega
                  · rw [hpre, List.append_assoc]; rfl
          · rintro b s₀ s₁ ⟨⟨m₁, F₁, me, mp⟩, hpos, ⟨old, hE⟩, hI, hS, ⟨pre, hpre⟩⟩
            have hd : x.cps.toList.drop x.cps.toList.length = [] := by simp
            rw [hd] at hpre ⊢
            refine seg_forLoop (enumTextEnd rfl hE hI rfl ?_)
            intro h6 oi6 gi6 hk6
            dsimp only
            refine seg_leaf (.ok .next) ?_
            have F6 : Fr hb s.heap.objs.size h6 m₁ := ⟨F₁.ns.at' fun o e => hk6 _ o hLi e, fun b o e => hk6 b o (hbi b o e) (F₁.keep b o e), F₁.above⟩
            have E6 := hk6 _ _ (Nat.succ_ne_self _) hE
            obtain ⟨rest, N6, hrest⟩ := restNews (hb := hb) (Lg := s.heap.objs.size) E6 gi6 (hbf _ (Nat.le_succ _)) (hbf _ (Nat.le_refl _)) hLe.symm hLi.symm
            have O6 : Old hb h6 := F6.keep
            refine seg_execs_cons (seg_If ?_)
            k_steps
            · rename_i eb
              subst eb
              obtain ⟨tp, mp⟩ := mp (hpos rfl)
              refine seg_execs_cons (seg_Expr_Yield (n := 0) rfl rfl rfl ?_)
              k_steps
              rename_i D9 h9 F9 N9 l9 kap hk9
              refine yieldY (post := []) hS (fun b o p q r => hk6 b o q r) O6 hrest F9 N9 rfl rfl rfl ?_ ?_ hpre rfl ?_
              · (try dsimp only); omega
              · (try dsimp only); omega
              · intro s2 O2 F2 e2 i2
                refine hk9 .none s2 ?_
                exact seg_execs_nil (seg_end (.ok (.ret .none)) ⟨rfl, rfl, ⟨fun _ _ _ _ _ h => h, rfl, rfl, rfl, Nat.le_refl _⟩⟩)
            · rename_i eb
              subst eb
              refine seg_execs_nil (seg_end (.ok (.ret .none)) ⟨rfl, rfl, ⟨fun b o p q r h => hk6 b o r (hS.keep b o p q r h), hS.gens, hS.drawn, hS.os, ?_⟩⟩)
              have := hS.toks
              (try dsimp only); omega
          · refine ⟨⟨_, Fr.old F4 hk5, rfl, fun h => absurd h (Nat.lt_irrefl _)⟩, (fun h => nomatch h), ⟨_, hE5⟩, hI5, ⟨fun b o p q r e => hk5 b o ((hs4.2 b p).trans ((hs3.2 b p).trans e)), rfl, rfl, rfl, ?_⟩, ⟨[], rfl⟩⟩
            show (s'.setGen s.gens.size GenState.running).toks ≤ _ + 1 + 1
            omega
        · rintro b (rfl | rfl | rfl | rfl)
          · exact .inl ⟨_, .head _, rfl⟩
          · exact .inl ⟨_, .tail _ (.head _), rfl⟩
          · exact .inr (hnone _ (Nat.le_succ _))
          · exact .inr (hnone _ (Nat.le_refl _))
      | succ i =>
        obtain ⟨e, it, oL, oe, oi, gs, rfl, n1, n2, n3, b1, b2, hG, hgo⟩ := hS
        obtain ⟨m, hm⟩ : ∃ m, (escs x.cps.toList 0 false).length - (i + 1) = m + 1 := ⟨(escs x.cps.toList 0 false).length - (i + 1) - 1, by omega⟩
        have ha' := H _ (.head _)
        have g := hgo (s'.setGen s.gens.size .running) O (H _ (.tail _ (.head _))) (H _ (.tail _ (.tail _ (.head _)))) (H _ (.tail _ (.tail _ (.tail _ (.head _)))))
        rw [hm] at g
        refine genTurn rfl (by dsimp only; omega) rfl rfl ⟨oa, _, _, ha', rfl, rfl, rfl⟩ hm hi n1 n2 n3 hG ha' b1 b2 hlim htk' g ?_ hQ'
        rintro b (rfl | rfl | rfl | rfl)
        · exact .inl ⟨_, .head _, rfl⟩
        · exact .inl ⟨_, .tail _ (.head _), rfl⟩
        · exact .inl ⟨_, .tail _ (.tail _ (.head _)), rfl⟩
        · exact .inl ⟨_, .tail _ (.tail _ (.tail _ (.head _))), rfl⟩
    · intro own s' Q' htk' hS H O hlim hQ'
      obtain ⟨i, hi⟩ : ∃ i, (escs x.cps.toList 0 false).length = i + 1 := ⟨(escs x.cps.toList 0 false).length - 1, by omega⟩
      rw [hi] at hS
      obtain ⟨e, it, oL, oe, oi, gs, rfl, n1, n2, n3, b1, b2, hG, hgo⟩ := hS
      have ha' := H _ (.head _)
      have g := hgo (s'.setGen s.gens.size .running) O (H _ (.tail _ (.head _))) (H _ (.tail _ (.tail _ (.head _)))) (H _ (.tail _ (.tail _ (.tail _ (.head _)))))
      rw [hi, Nat.sub_self] at g
      exact genEnd rfl (by dsimp only; omega) ⟨oa, _, _, ha', rfl, rfl, rfl⟩ hG O ⟨hbL, b1, b2⟩ hlim g ⟨.tail _ (.head _), .tail _ (.tail _ (.head _)), .tail _ (.tail _ (.tail _ (.head _)))⟩ hQ'
  · exact fun h e => ⟨oL, esL, epL, e, hns'⟩
  · intro p hp
    rcases List.mem_cons.mp hp with rfl | hp
    · exact ha
    · rw [List.mem_singleton.mp hp]; exact hold₂ _ _ hoL
  · intro p hp
    rcases List.mem_cons.mp hp with rfl | hp
    · exact hA
    · rw [List.mem_singleton.mp hp]; exact hLg
end
end PartB10
end Mine

namespace Mine
section PartB11
open PySem PySem.W PySem.Calls PyProof.Rows
local macro_rules | `(tactic| walk_at "enterF") => `(tactic| (
  (case ho => k_is); (case hcd => k_is); (case hr => (dsimp only [Around.deeper, Around.in1]; omega)); (case hb => exact rfl); (case hl => rfl); (case hc => rfl); (case h1 => exact rfl); (case h2 => exact rfl); (case h3 => exact rfl)))
local macro_rules | `(tactic| walk_at "eval Name") => `(tactic| (k_here; k_dflt (refine' ld ?k1 ?k2 ?_; (case k1 => k_asm); (case k2 => assumption); k_whole)))
local macro_rules | `(tactic| walk_at "call builtin:list.append") => `(tactic| (k_here; k_dflt (refine' appendA ?F ?N ?a ?z ?_; (case F => k_asm); (case N => k_asm); (case a => first | assumption | exact (fun _ _ _ h => nomatch h)); (case z => (show _ ≤ 16777216; omega))); intro h' n' F' N' a'))
theorem fillK11 (w : World) : PySem.Challenge.rw_ux0008_01 = PySem.Challenge.rw_ux0008_01 ∧ Mine.hd.heap_39 w.params = Mine.hd.heap_39 w.params := by
  k_fill
  exact ⟨rfl, rfl⟩

structure Kp (s s' : Shared) : Prop where
  old : Old s.heap s'.heap
  os : s'.os = s.os
  bare : AllBare s.gens → AllBare s'.gens
  toks : s.toks ≤ s'.toks

section
variable {prog : Program} {w : World} {d u : Nat} {fr : Option (List Env)} {gd : Option (List Code)} {s : Shared} {loose : List Str} {mean : ExcName → Option Value} {mg mb : Str → Option Value} {Q E : Value → Shared → Prop}
theorem apart_new {base h : Heap} {L : Addr} {news own : Own} (N : News base L h news) (hn : ∀ p ∈ own, h.get? p.1 = none) : Apart news own := by
  intro p hp q hq e
  have := (N p hp).1
  rw [e, hn q hq] at this; cases this
theorem own_news {base h h' : Heap} {L : Addr} {m : Str → Option Value} {own : Own} (F : Fr base L h m) (H : Holds own h') (hn : ∀ p ∈ own, h.get? p.1 = none) : News base L h' own := by
  intro p hp
  refine ⟨H p hp, ?_, ?_⟩
  · intro e
    obtain ⟨oL, _, _, hL, _⟩ := F.ns
    have := hn p hp
    rw [e, hL] at this; cases this
  · cases hb : base.get? p.1 with
    | none => rfl
    | some o' => have := F.keep _ _ hb; rw [hn p hp] at this; cases this

/-- a for loop over the generator of a text -/
theorem forGen {R : Result → Shared → Prop} {x : Str} {t : Tok} {elts : List Expr} {k : Nat} {px : Pos} {body orelse : List Stmt} {env : Env} {base : Heap} {m₀ : Str → Option Value} {news₀ : Own}
    (hx : 0 < x.cps.size) (hroom : d + 3 < recursionLimit) (KX : (Mine.hd.heap_39 w.params).In base) (T : Top Mine.hd.view_39 loose mean mg mb base)
    (J : Nat → (Str → Option Value) → Own → Prop) (F : Fr base env.locals s.heap m₀) (N : News base env.locals s.heap news₀) (hJ : J 0 m₀ news₀)
    (step : ∀ s' : Shared, s'.os = s.os → s.toks ≤ s'.toks → StepOk prog w (Ar d u fr gd) R (.Tuple elts k px) body env base (escs x.cps.toList 0 false).length (ItemP (escs x.cps.toList 0 false) s.toks) J (fun _ => True) s')
    (done : ∀ s' : Shared, s'.os = s.os → s.toks ≤ s'.toks → DoneOk prog w (Ar d u fr gd) R orelse env base (escs x.cps.toList 0 false).length J (fun _ s₁ => s₁.gens = s.gens.push .finished) s') :
    wpAny (model prog w) (Ar d u fr gd) (call (.ref 77) [.str x t]) (fun xv s₁ => wpAny (model prog w) (Ar d u fr gd) (pyIter xv) (fun it s₂ => codeAny (model prog w) (Ar d u fr gd) (.forLoop (.Tuple elts k px) it body orelse env) R s₂) NoE s₁) NoE s := by
  refine iter_c (hb := base) hx hroom KX T F.keep (Nat.le_trans F.above (Nat.le_of_lt F.ns.lt)) ?_
  intro a S own s2 hIt hS0 hH hnew hold2 hos2 htk2 hgen2 _
  refine wpAny_pyIter_gen hgen2 ?_
  exact forI (news₀ := news₀) (own₀ := own) (hIt _ _ _) htk2 T.nolimit (fun _ _ e => e) J (Fr.old F hold2) (news_app (News.old N hold2) (own_news F hH hnew)) (apart_new N hnew) hS0 hJ
    (fun i v m news own s₁ => step s2 hos2 htk2 S (fun _ _ _ _ => trivial) i v m news own s₁) (fun m news s₁ J₁ Z₁ => done s2 hos2 htk2 m news s₁ J₁ Z₁)

def stripStep (x : Str) (st : Nat × Option Nat × List Str) (q : Nat × Str) : Nat × Option Nat × List Str :=
  if q.2 == Str.ofString "\"" then (match st.2.1 with
    | none => (st.1, some q.1, st.2.2)
    | some o => (q.1 + 1, none, if (st.1 : Int) ≠ o then st.2.2 ++ [Txt.slice x (some (st.1 : Nat)) (some (o : Nat))] else st.2.2))
  else st
def OpenIs (v : Option Value) : Option Nat → Prop
  | none => v = some .none
  | some o => ∃ t, v = some (.int (o : Nat) t)
theorem escs_len : ∀ (l : List Nat) (i : Nat) (b : Bool), (escs l i b).length ≤ l.length + 1
  | [], _, true => Nat.le_refl _
  | [], _, false => Nat.zero_le _
  | _ :: r, i, true => by
    have := escs_len r (i + 1) false
    simp only [escs, List.length_cons]; omega
  | c :: r, i, false => by
    have h1 := escs_len r (i + 1) false
    have h2 := escs_len r (i + 1) true
    unfold escs
    split
    · simp only [List.length_cons]; omega
    · simp only [List.length_cons]; omega
def stripEnd (x : Str) (st : Nat × Option Nat × List Str) : Str := Txt.join (Str.ofString "") (if (st.1 : Int) < x.length then st.2.2 ++ [Txt.slice x (some (st.1 : Nat)) none] else st.2.2)
def stripP (x : Str) : Str := if (Builtin.Str.occurrences x (Str.ofString "\"") 0 x.length 1).isEmpty then x else stripEnd x ((escs x.cps.toList 0 false).foldl (stripStep x) (0, none, []))
theorem strip_short {x : Str} : ∀ (l : List (Nat × Str)) (st : Nat × Option Nat × List Str), (∀ y ∈ st.2.2, y.length ≤ x.length) → ∀ y ∈ (l.foldl (stripStep x) st).2.2, y.length ≤ x.length
  | [], _, h => h
  | q :: r, st, h => by
    rw [List.foldl_cons]
    refine strip_short r _ ?_
    unfold stripStep
    split
    · split
      · exact h
      · simp only
        split
        · intro y hy
          rcases List.mem_append.mp hy with hy | hy
          · exact h y hy
          · rw [List.mem_singleton.mp hy]; exact Txt.slice_le x _ _
        · exact h
    · exact h
theorem strip_next {x : Str} {l : List (Nat × Str)} {i : Nat} {q : Nat × Str} {st0 : Nat × Option Nat × List Str} (h : l[i]? = some q) : (l.take (i + 1)).foldl (stripStep x) st0 = stripStep x ((l.take i).foldl (stripStep x) st0) q := by
  rw [List.take_add_one, h, List.foldl_append]; rfl
theorem strip_c {x : Str} {t : Tok} (hx : 0 < x.cps.size) (hlen : x.length ≤ 1000)
   (hroom : d + 5 < recursionLimit) (KX : (Mine.hd.heap_39 w.params).In s.heap) (T : Top Mine.hd.view_39 loose mean mg mb s.heap)
   (hQ : ∀ t' s', Kp s s' → Q (.str (stripP x) t') s') :
   wpAny (model prog w) (Ar d u fr gd) (call (.ref 84) [.str x t]) Q E s := by
  refine' enterF (binds := [(Str.ofString "addr", .str x t)]) KX T ?ho ?hcd ?hr ?hb ?hl ?hc ?_ ?h1 ?h2 ?h3
  walk_at "enterF"
  intro L h₁ F hk
  try dsimp only
  have N0 : News s.heap L h₁ [] := News.nil
  k_steps
  · rename (Builtin.Str.occurrences _ _ _ _ _).isEmpty = true => hq
    rw [show stripP x = x from if_pos hq] at hQ
    refine hQ _ _ ?_
    exact ⟨hk, rfl, fun h => h, by assumption⟩
  rename (Builtin.Str.occurrences _ _ _ _ _).isEmpty = false => hq
  refine forS ?_
  k_steps
  rename_i D h2 _ h3 F3 N3
  refine forGen (base := s.heap) hx (by dsimp only [Around.deeper, Around.in1]; omega) KX T (fun i m news => ∃ ts vs n, vs.size ≤ i ∧ m (Str.ofString "start") = some (.int ((((escs x.cps.toList 0 false).take i).foldl (stripStep x) (0, none, [])).1 : Nat) ts) ∧
    OpenIs (m (Str.ofString "open_pos")) (((escs x.cps.toList 0 false).take i).foldl (stripStep x) (0, none, [])).2.1 ∧ m (Str.ofString "result") = some (.ref D) ∧ m (Str.ofString "addr") = some (.str x t) ∧
    news = [(D, { cls := .type "list", data := .seq vs n })] ∧ StrsAre vs.toList (((escs x.cps.toList 0 false).take i).foldl (stripStep x) (0, none, [])).2.2) F3 N3 ?_ ?_ ?_
  · exact ⟨_, _, _, Nat.le_refl _, rfl, rfl, rfl, rfl, rfl, .nil⟩
  · rintro s' hos htk S hSG i v m news own s₁ hi ⟨ts, vs, n, hvs, h1, h2, h3, h4, rfl, h6⟩ ⟨T', tp, tu, p, u', hit, rfl, hT, hB⟩ S₁ F₁ N₁ a₁ o₁ t₁
    have hx0 : x.cps.size = x.length := rfl
    have hil := escs_len x.cps.toList 0 false
    have hxl : x.cps.toList.length = x.cps.size := by simp
    have key := strip_next (x := x) (st0 := (0, none, [])) hit
    generalize ((escs x.cps.toList 0 false).take i).foldl (stripStep x) (0, none, []) = st at *
    obtain ⟨st1, st2, st3⟩ := st
    dsimp only at *
    cases st2 with
    | none =>
      have h2' : m (Str.ofString "open_pos") = some .none := h2
      k_steps
      · rename Fr _ _ _ _ => FE
        rename News _ _ _ _ => NE
        rename (u' == Str.ofString "\"") = true => hu
        refine ⟨⟨_, _, own, FE, NE, a₁, S₁, ts, vs, n, Nat.le_succ_of_le hvs, ?_⟩, o₁, by assumption⟩
        have e : stripStep x (st1, none, st3) (p, u') = (st1, some p, st3) := by simp only [stripStep, hu, if_true]
        rw [key, e]
        exact ⟨h1, ⟨_, rfl⟩, h3, h4, rfl, h6⟩
      · rename Fr _ _ _ _ => FE
        rename News _ _ _ _ => NE
        rename (u' == Str.ofString "\"") = false => hu
        refine ⟨⟨_, _, own, FE, NE, a₁, S₁, ts, vs, n, Nat.le_succ_of_le hvs, ?_⟩, o₁, by assumption⟩
        have e : stripStep x (st1, none, st3) (p, u') = (st1, none, st3) := by simp only [stripStep, hu, Bool.false_eq_true, if_false]
        rw [key, e]
        exact ⟨h1, h2', h3, h4, rfl, h6⟩
    | some o =>
      obtain ⟨to, h2'⟩ := h2
      k_steps
      · rename Fr _ _ _ _ => FE
        rename News _ _ _ _ => NE
        rename (u' == Str.ofString "\"") = true => hu
        rename ((st1 : Int) ≠ (o : Int)) => hne
        refine ⟨⟨_, _, own, FE, NE, by assumption, S₁, ?_⟩, o₁, by assumption⟩
        dsimp only
        have e : stripStep x (st1, some o, st3) (p, u') = (p + 1, none, st3 ++ [Txt.slice x (some (st1 : Nat)) (some (o : Nat))]) := by simp only [stripStep, hu, if_true, if_pos hne]
        rw [key, e]
        exact ⟨_, _, _, by simpa using hvs, rfl, rfl, h3, h4, rfl, by rw [Array.toList_push]; exact StrsAre.append' h6 (.cons _ _ .nil)⟩
      · rename Fr _ _ _ _ => FE
        rename News _ _ _ _ => NE
        rename (u' == Str.ofString "\"") = true => hu
        rename ((st1 : Int) = (o : Int)) => hne
        refine ⟨⟨_, _, own, FE, NE, a₁, S₁, ?_⟩, o₁, by assumption⟩
        dsimp only
        have e : stripStep x (st1, some o, st3) (p, u') = (p + 1, none, st3) := by simp only [stripStep, hu, if_true, if_neg (not_not_intro hne)]
        rw [key, e]
        exact ⟨_, vs, n, Nat.le_succ_of_le hvs, rfl, rfl, h3, h4, rfl, h6⟩
      · rename Fr _ _ _ _ => FE
        rename News _ _ _ _ => NE
        rename (u' == Str.ofString "\"") = false => hu
        refine ⟨⟨_, _, own, FE, NE, a₁, S₁, ts, vs, n, Nat.le_succ_of_le hvs, ?_⟩, o₁, by assumption⟩
        have e : stripStep x (st1, some o, st3) (p, u') = (st1, some o, st3) := by simp only [stripStep, hu, Bool.false_eq_true, if_false]
        rw [key, e]
        exact ⟨h1, ⟨_, h2'⟩, h3, h4, rfl, h6⟩
  · rintro s' hos htk m news s₁ ⟨ts, vs, n, hvs, h1, h2, h3, h4, rfl, h6⟩ Z₁ F₁ N₁ o₁ t₁
    rw [List.take_length] at h1 h2 h6
    have hx0 : x.cps.size = x.length := rfl
    have hil := escs_len x.cps.toList 0 false
    have hxl : x.cps.toList.length = x.cps.size := by simp
    have hsh := strip_short (x := x) (escs x.cps.toList 0 false) (0, none, []) (fun _ h => nomatch h)
    have hocc : stripP x = stripEnd x ((escs x.cps.toList 0 false).foldl (stripStep x) (0, none, [])) := if_neg (by rw [hq]; exact Bool.false_ne_true)
    generalize (escs x.cps.toList 0 false).foldl (stripStep x) (0, none, []) = st at *
    have hl6 := h6.length
    rw [Array.length_toList] at hl6
    k_steps
    · rename Fr _ _ _ _ => FE
      rename News _ _ _ _ => NE
      rename ((st.1 : Int) < _) => hlt
      refine joinA (NE.isList (.head _)) (xs := st.2.2 ++ [Txt.slice x (some (st.1 : Nat)) none]) ?_ ?_ ?_ rfl ?_
      · rw [Array.toList_push]; exact StrsAre.append' h6 (.cons _ _ .nil)
      · intro y hy
        rcases List.mem_append.mp hy with hy | hy
        · have := hsh y hy; omega
        · rw [List.mem_singleton.mp hy]; have := Txt.slice_le x (some ((st.1 : Nat) : Int)) none; omega
      · rw [List.length_append, List.length_singleton]; omega
      · intro t9 k9 htk9
        rw [hocc, show stripEnd x st = Txt.join (Str.ofString "") (st.2.2 ++ [Txt.slice x (some (st.1 : Nat)) none]) from by unfold stripEnd; rw [if_pos hlt]] at hQ
        refine hQ _ _ ?_
        exact ⟨FE.keep, o₁.trans hos, fun hb => by (show AllBare s₁.gens); rw [Z₁]; exact hb.push rfl, htk9⟩
    · rename (¬ (st.1 : Int) < _) => hlt
      refine joinA (N₁.isList (.head _)) (xs := st.2.2) h6 ?_ ?_ rfl ?_
      · intro y hy
        have := hsh y hy; omega
      · omega
      · intro t9 k9 htk9
        rw [hocc, show stripEnd x st = Txt.join (Str.ofString "") st.2.2 from by unfold stripEnd; rw [if_neg hlt]] at hQ
        refine hQ _ _ ?_
        exact ⟨F₁.keep, o₁.trans hos, fun hb => by (show AllBare s₁.gens); rw [Z₁]; exact hb.push rfl, htk9⟩
end
end PartB11
end Mine

namespace Mine
section PartB12
open PySem PySem.W PySem.Calls PyProof.Rows
abbrev lstO (ys : Array Value) (k : Nat) : Obj := { cls := .type "list", data := .seq ys k }
abbrev testsOf (ifs : List Expr) (env : Env) : Sem Bool := forIn ifs true fun c r => if r = true then do let ok ← isTrue c env (eval c env); pure (ForInStep.yield ok) else pure (ForInStep.yield r)

/-- what stands between the turns of a comprehension -/
structure CTurn (base : Heap) (C D : Addr) (S : Nat → Own → Array GenState → Prop) (J : (Str → Option Value) → Array Value → Prop) (ext : Own) (os : OsState) (tk0 : Nat) (i : Nat) (s : Shared) : Prop where
  all : ∃ m ys k own, Fr base C s.heap m ∧ News base C s.heap ([(D, lstO ys k)] ++ (ext ++ own)) ∧ Apart [(D, lstO ys k)] (ext ++ own) ∧ Apart ext own ∧ S i own s.gens ∧ J m ys
  os : s.os = os
  tk : tk0 ≤ s.toks

section
variable {prog : Program} {w : World} {A : Around} {E : Value → Shared → Prop} {s : Shared}

/-- a comprehension's loop, by its turns -/
theorem compLoopG {e : Expr} {depth : Nat} {R : Result → Shared → Prop} {elt target iter : Expr} {ifs : List Expr} {it acc : Value} {env : Env} {n : Nat} (Inv : Nat → Shared → Prop)
    (hT : compTurn e depth it acc env = (do
      standAt iter.pos
      match ← pyNext it with
      | none => pure (.done .next)
      | some v =>
        letOwnedTupleGo target it v
        assign target env v
        let ok ← testsOf ifs env
        if ok then
          (do let _ ← call (.builtin "list.append") [acc, ← eval elt env])
        again (.compLoop e depth it acc env)))
    (hq : (Code.compLoop e depth it acc env).quiet = true) (hfr : ∀ (Q : Fin → Shared → Prop) (E : Value → Shared → Prop) (s : Shared), wpAny (model prog w) A ((compTurn e depth it acc env).onRaise (fun x => do noteFrame x env; theTreesLotGoes x)) Q E s → wpAny (model prog w) (A.under (Code.compLoop e depth it acc env)) ((model prog w).den (Code.compLoop e depth it acc env)) Q E s)
    (turn : ∀ i s, i < n → Inv i s → wpAny (model prog w) A (pyNext it) (fun r s₁ => ∃ v, r = some v ∧
      wpAny (model prog w) A (letOwnedTupleGo target it v) (fun _ s₂ => wpAny (model prog w) A (assign target env v) (fun _ s₃ => wpAny (model prog w) A (testsOf ifs env) (fun ok s₄ =>
        if ok = true then wpAny (model prog w) A (eval elt env) (fun y s₅ => wpAny (model prog w) A (call (.builtin "list.append") [acc, y]) (fun _ s₆ => Inv (i + 1) s₆) NoE s₅) NoE s₄ else Inv (i + 1) s₄) NoE s₃) NoE s₂) NoE s₁) NoE s)
    (fin : ∀ s, Inv n s → wpAny (model prog w) A (pyNext it) (fun r s₁ => r = none ∧ R (.ok .next) s₁) NoE s)
    (h0 : Inv 0 s) : codeAny (model prog w) A (.compLoop e depth it acc env) R s := by
  refine codeAny_loop hq (fun k s' => ∃ i, i ≤ n ∧ Inv i s' ∧ k = n - i) ?_ n ⟨0, Nat.zero_le _, h0, rfl⟩
  rintro k s' ⟨i, hi, hI, rfl⟩
  refine hfr _ _ _ ?_
  refine wpAny_noted (wpAny_mono (E := NoE) (?_ : wpAny _ A (compTurn e depth it acc env) (fun fin s' => match fin with | .done f => R (.ok f) s' | .again c' => c' = Code.compLoop e depth it acc env ∧ ∃ m, m < n - i ∧ ∃ i, i ≤ n ∧ Inv i s' ∧ m = n - i) NoE s') (fun _ _ x => x) fun _ _ x => x.elim)
  rw [hT]
  refine wpAny_bind (wpAny_standAt (wpAny_bind ?_))
  by_cases hlt : i < n
  · refine wpAny_mono (turn i s' hlt hI) (fun r s₁ h₁ => ?_) fun _ _ x => x
    obtain ⟨v, rfl, h₁⟩ := h₁
    refine wpAny_bind (wpAny_mono h₁ (fun _ s₂ h₂ => wpAny_bind (wpAny_mono h₂ (fun _ s₃ h₃ => wpAny_bind (wpAny_mono h₃ (fun ok s₄ h₄ => ?_) fun _ _ x => x)) fun _ _ x => x)) fun _ _ x => x)
    cases ok with
    | false =>
      simp only [Bool.false_eq_true, if_false] at h₄ ⊢
      exact wpAny_pure ⟨rfl, n - (i + 1), by omega, i + 1, hlt, h₄, rfl⟩
    | true =>
      simp only [if_true] at h₄ ⊢
      exact wpAny_bind (wpAny_bind (wpAny_mono h₄ (fun x s₅ h₅ => wpAny_bind (wpAny_mono h₅ (fun _ s₆ h₆ => wpAny_pure (wpAny_pure ⟨rfl, n - (i + 1), by omega, i + 1, hlt, h₆, rfl⟩)) fun _ _ x => x)) fun _ _ x => x))
  · obtain rfl : i = n := by omega
    refine wpAny_mono (fin s' hI) (fun r s₁ h₁ => ?_) fun _ _ x => x
    obtain ⟨rfl, h₁⟩ := h₁
    exact wpAny_pure h₁

theorem compI {e : Expr} {depth : Nat} {R : Result → Shared → Prop} {elt target iter : Expr} {ifs : List Expr} {it : Value} {D : Addr} {env : Env} {base hb : Heap} {tk0 n : Nat} {P : Nat → Value → Heap → Prop} {S : Nat → Own → Array GenState → Prop} {Z : Array GenState → Prop}
    {m₀ : Str → Option Value} {ys₀ : Array Value} {k₀ : Nat} {ext own₀ : Own}
    (hT : compTurn e depth it (.ref D) env = (do
      standAt iter.pos
      match ← pyNext it with
      | none => pure (.done .next)
      | some v =>
        letOwnedTupleGo target it v
        assign target env v
        let ok ← testsOf ifs env
        if ok then
          (do let _ ← call (.builtin "list.append") [.ref D, ← eval elt env])
        again (.compLoop e depth it (.ref D) env)))
    (hq : (Code.compLoop e depth it (.ref D) env).quiet = true) (hfr : ∀ (Q : Fin → Shared → Prop) (E : Value → Shared → Prop) (s : Shared), wpAny (model prog w) A ((compTurn e depth it (.ref D) env).onRaise (fun x => do noteFrame x env; theTreesLotGoes x)) Q E s → wpAny (model prog w) (A.under (Code.compLoop e depth it (.ref D) env)) ((model prog w).den (Code.compLoop e depth it (.ref D) env)) Q E s)
    (I : ItOk prog w A target it hb tk0 n P S Z) (htk0 : tk0 ≤ s.toks) (hbase : base.NoLimit) (hob : Old hb base) (J : Nat → (Str → Option Value) → Array Value → Prop)
    (F : Fr base env.locals s.heap m₀) (N : News base env.locals s.heap ([(D, lstO ys₀ k₀)] ++ (ext ++ own₀))) (ap : Apart [(D, lstO ys₀ k₀)] (ext ++ own₀)) (ape : Apart ext own₀) (hS : S 0 own₀ s.gens) (hJ : J 0 m₀ ys₀)
    (hsz : ∀ i m ys, i ≤ n → J i m ys → ys.size ≤ 1000000)
    (step : ∀ i v m ys k own (s₁ : Shared), i < n → J i m ys → P i v s₁.heap → S (i + 1) own s₁.gens → Fr base env.locals s₁.heap m → News base env.locals s₁.heap ([(D, lstO ys k)] ++ (ext ++ own)) → Apart [(D, lstO ys k)] (ext ++ own) → Apart ext own → s₁.os = s.os → s.toks ≤ s₁.toks →
      wpAny (model prog w) A (assign target env v) (fun _ s₂ => wpAny (model prog w) A (testsOf ifs env) (fun ok s₃ =>
        if ok = true then wpAny (model prog w) A (eval elt env) (fun y s₄ => s.toks ≤ s₄.toks → CTurn base env.locals D S (fun m ys => ys.size ≤ 1000000 ∧ J (i + 1) m (ys.push y)) ext s.os s.toks (i + 1) s₄) NoE s₃
        else s.toks ≤ s₃.toks → CTurn base env.locals D S (J (i + 1)) ext s.os s.toks (i + 1) s₃) NoE s₂) NoE s₁)
    (done : ∀ m ys k (s₁ : Shared), J n m ys → Z s₁.gens → Fr base env.locals s₁.heap m → News base env.locals s₁.heap ([(D, lstO ys k)] ++ ext) → Apart [(D, lstO ys k)] ext → s₁.os = s.os → s.toks ≤ s₁.toks → R (.ok .next) s₁) :
    codeAny (model prog w) A (.compLoop e depth it (.ref D) env) R s := by
  refine compLoopG (n := n) (fun i s₁ => CTurn base env.locals D S (J i) ext s.os s.toks i s₁) hT hq hfr ?_ ?_ ⟨⟨m₀, ys₀, k₀, own₀, F, N, ap, ape, hS, hJ⟩, rfl, Nat.le_refl _⟩
  · rintro i s₁ hi ⟨⟨m, ys, k, own, F₁, N₁, a₁, b₁, S₁, J₁⟩, hos, htk⟩
    have aa : Apart ([(D, lstO ys k)] ++ ext) own := by
      intro p hp q hq
      rcases List.mem_append.mp hp with hp | hp
      · exact a₁ p hp q (List.mem_append_right _ hq)
      · exact b₁ p hp q hq
    rw [← List.append_assoc] at N₁
    refine I.next i own s₁ _ hi (Nat.le_trans htk0 htk) S₁ (news_holds (news_r N₁)) (fun b o e => F₁.keep b o (hob b o e)) (hbase.keeps F₁.keep) ?_
    intro v own' h' tk G' htk' S' H' M' P'
    have F' := M'.fr F₁ (news_r N₁)
    have N' := news_app (M'.news (news_l N₁) aa) (M'.own F₁ (news_r N₁) H')
    have A' := M'.apart (news_l N₁) aa
    rw [List.append_assoc] at N'
    have A1 : Apart [(D, lstO ys k)] (ext ++ own') := by
      intro p hp q hq
      rcases List.mem_append.mp hq with hq | hq
      · exact a₁ p hp q (List.mem_append_left _ hq)
      · exact A' p (List.mem_append_left _ hp) q hq
    have A2 : Apart ext own' := fun p hp q hq => A' p (List.mem_append_right _ hp) q hq
    refine wpAny_mono (wpAny_toks_of (n := s.toks) (Nat.le_trans htk htk') (step i v m ys k own' _ hi J₁ P' S' F' N' A1 A2 hos (Nat.le_trans htk htk'))) (fun _ s₂ h₂ => ?_) fun _ _ x => x.2
    refine wpAny_mono (wpAny_toks_of h₂.1 h₂.2) (fun ok s₃ h₃ => ?_) fun _ _ x => x.2
    obtain ⟨t3, h₃⟩ := h₃
    cases ok with
    | false => simp only [Bool.false_eq_true, if_false] at h₃ ⊢; exact h₃ t3
    | true =>
      simp only [if_true] at h₃ ⊢
      refine wpAny_mono (wpAny_toks_of t3 h₃) (fun y s₄ h₄ => ?_) fun _ _ x => x.2
      obtain ⟨t4, h₄⟩ := h₄
      obtain ⟨⟨m4, ys4, k4, own4, F4, N4, a4, b4, S4, z4, J4⟩, o4, tt4⟩ := h₄ t4
      refine append_at (hsz := Nat.le_trans z4 (by decide)) (N4 _ (.head _)).1 fun h5 hs5 hD5 => ?_
      refine ⟨⟨m4, ys4.push y, k4 + 1, own4, ⟨F4.ns.at' fun o e => hs5.extBut _ o (fun q => (N4 _ (.head _)).2.1 q.symm) e, fun b o e => hs5.extBut b o ?_ (F4.keep b o e), F4.above⟩, ?_, ?_, b4, S4, J4⟩, o4, tt4⟩
      · rintro rfl; rw [(N4 _ (.head _)).2.2] at e; cases e
      · intro p hp
        rcases List.mem_cons.mp hp with rfl | hp
        · exact ⟨hD5, (N4 _ (.head _)).2⟩
        · exact ⟨hs5.extBut _ _ (fun q => a4 _ (.head _) p hp q.symm) (N4 _ (.tail _ hp)).1, (N4 _ (.tail _ hp)).2⟩
      · intro p hp q hq
        rw [List.mem_singleton.mp hp]
        exact a4 _ (.head _) q hq
  · rintro s₁ ⟨⟨m, ys, k, own, F₁, N₁, a₁, b₁, S₁, J₁⟩, hos, htk⟩
    have aa : Apart ([(D, lstO ys k)] ++ ext) own := by
      intro p hp q hq
      rcases List.mem_append.mp hp with hp | hp
      · exact a₁ p hp q (List.mem_append_right _ hq)
      · exact b₁ p hp q hq
    rw [← List.append_assoc] at N₁
    refine I.fin own s₁ _ (Nat.le_trans htk0 htk) S₁ (news_holds (news_r N₁)) (fun b o e => F₁.keep b o (hob b o e)) (hbase.keeps F₁.keep) ?_
    intro h' tk G' htk' Z' M'
    exact done m ys k _ J₁ Z' (M'.fr F₁ (news_r N₁)) (M'.news (news_l N₁) aa) (fun p hp q hq => a₁ p hp q (List.mem_append_left _ hq)) hos (Nat.le_trans htk htk')
end
end PartB12
end Mine

namespace Mine
section PartB13
open PySem PySem.W PySem.Calls PyProof.Rows
section
variable {prog : Program} {w : World} {A : Around} {E : Value → Shared → Prop} {s : Shared}

/-- one turn of a comprehension's loop -/
abbrev CStep (prog : Program) (w : World) (A : Around) (base : Heap) (C D : Addr) (cenv : Env) (target : Expr) (ifs : List Expr) (elt : Expr) (n : Nat) (P : Nat → Value → Heap → Prop) (J : Nat → (Str → Option Value) → Array Value → Prop) (Gd : Array GenState → Prop) (ext : Own) (s : Shared) : Prop :=
  ∀ (S : Nat → Own → Array GenState → Prop) (_ : ∀ i own G, S i own G → Gd G) (i : Nat) (v : Value) (m : Str → Option Value) (ys : Array Value) (k : Nat) (own : Own) (s₁ : Shared), i < n → J i m ys → P i v s₁.heap → S (i + 1) own s₁.gens →
    Fr base C s₁.heap m → News base C s₁.heap ([(D, lstO ys k)] ++ (ext ++ own)) → Apart [(D, lstO ys k)] (ext ++ own) → Apart ext own → s₁.os = s.os → s.toks ≤ s₁.toks →
      wpAny (model prog w) A (assign target cenv v) (fun _ s₂ => wpAny (model prog w) A (testsOf ifs cenv) (fun ok s₃ =>
        if ok = true then wpAny (model prog w) A (eval elt cenv) (fun y s₄ => s.toks ≤ s₄.toks → CTurn base C D S (fun m ys => ys.size ≤ 1000000 ∧ J (i + 1) m (ys.push y)) ext s.os s.toks (i + 1) s₄) NoE s₃
        else s.toks ≤ s₃.toks → CTurn base C D S (J (i + 1)) ext s.os s.toks (i + 1) s₃) NoE s₂) NoE s₁

theorem compBlock {elt target iter : Expr} {ifs : List Expr} {scope : Scope} {cl : List (Str × Addr)} {pos : Pos} {env : Env} {it : Value} {base hb : Heap} {tk0 n : Nat} {P : Nat → Value → Heap → Prop} {S : Nat → Own → Array GenState → Prop} {Z : Array GenState → Prop} {own₀ : Own}
    {RR : Value → Addr → Result → Shared → Prop}
    (hcell : ∀ y ∈ scope.names, y.2 ≠ .cell) (hkind : scope.kind = .function)
    (I : ItOk prog w A target it hb tk0 n P S Z) (htk0 : tk0 ≤ s.toks) (hbase : base.NoLimit) (hob : Old hb base) (hbs : Old base s.heap) (hbz : base.objs.size ≤ s.heap.objs.size)
    (H : Holds own₀ s.heap) (hn : ∀ p ∈ own₀, base.get? p.1 = none) (hS : S 0 own₀ s.gens)
    (self : ∀ (s' : Shared) (Q : Value → Shared → Prop) (E : Value → Shared → Prop), Old s.heap s'.heap → Q it s' → wpAny (model prog w) A (pyIter it) Q E s')
    (Gd : Array GenState → Prop) (hGd : ∀ i own G, S i own G → Gd G) (J : Nat → (Str → Option Value) → Array Value → Prop) (hJ : J 0 (fun _ => none) #[]) (hsz : ∀ i m ys, i ≤ n → J i m ys → ys.size ≤ 1000000)
    (step : ∀ (s' : Shared) C D, s'.os = s.os → s.toks ≤ s'.toks → CStep prog w A base C D (compEnvC scope cl C env) target ifs elt n P J Gd [] s')
    (done : ∀ D C m ys k (s' : Shared), J n m ys → Z s'.gens → Fr base C s'.heap m → News base C s'.heap [(D, lstO ys k)] → s'.os = s.os → s.toks ≤ s'.toks → RR (.ref D) C (.ok .next) s') :
    wpAny (model prog w) A (newList []) (fun acc s₃ => wpAny (model prog w) A (newFunctionEnv scope env.globals cl [] env.qual none .none (some env)) (fun cenv s₄ =>
      codeAny (model prog w) A (.compStart (.ListComp elt [⟨target, iter, ifs, 0⟩] scope pos) 0 it acc { cenv with scope := relabel scope env }) (RR acc cenv.locals) s₄) E s₃) E s := by
  refine wpAny_newObj_type (wpAny_newFunctionEnv hcell (by intro y hy; simp at hy) (fun h₁ hns₁ hsb₁ => ?_) hkind)
  dsimp only at hns₁ hsb₁ ⊢
  generalize hH2 : s.heap.push { cls := .type "list", dict := none, data := .seq ([] : List Value).toArray } = H2 at hns₁ hsb₁ ⊢
  have hC : H2.objs.size = s.heap.objs.size + 1 := by rw [← hH2, Heap.size_push]
  have hDC : s.heap.objs.size ≠ H2.objs.size := by rw [hC]; exact Nat.ne_of_lt (Nat.lt_succ_self _)
  have below : ∀ b, b < s.heap.objs.size → b ≠ H2.objs.size ∧ b ≠ s.heap.objs.size := fun b hb => ⟨by rw [hC]; exact Nat.ne_of_lt (Nat.lt_succ_of_lt hb), Nat.ne_of_lt hb⟩
  have old : Old s.heap h₁ := fun b o e => hsb₁.extBut b o (below b (Heap.lt_size e)).1 (Heap.get?_push_of_some _ (hH2 ▸ Heap.get?_push_of_some _ e))
  have hacc : h₁.get? s.heap.objs.size = some (lstO #[] 0) := hsb₁.extBut _ _ hDC (Heap.get?_push_of_some _ (hH2 ▸ Heap.get?_push_size _ rfl))
  have fresh : ∀ a, s.heap.objs.size ≤ a → base.get? a = none := fun a ha => by
    cases e : base.get? a with
    | none => rfl
    | some o' => exact absurd (Heap.lt_size (hbs _ _ e)) (Nat.not_lt.mpr ha)
  have loop : ∀ s₃ : Shared, s₃ = { s with heap := h₁, toks := s.toks + ([] : List (Str × Value)).length } →
      codeAny (model prog w) A (.compLoop (.ListComp elt [⟨target, iter, ifs, 0⟩] scope pos) 0 it (.ref s.heap.objs.size) (compEnvC scope cl H2.objs.size env))
        (RR (.ref s.heap.objs.size) H2.objs.size) s₃ := by
    rintro s₃ rfl
    have F₁ : Fr base H2.objs.size h₁ (fun x => ([] : List (Str × Value)).reverse.lookup x) := ⟨hns₁, fun b o e => old b o (hbs b o e), by rw [hC]; exact Nat.le_succ_of_le hbz⟩
    have N₁ : News base H2.objs.size h₁ ([(s.heap.objs.size, lstO #[] 0)] ++ ([] ++ own₀)) := by
      intro p hp
      rcases List.mem_cons.mp hp with rfl | hp
      · exact ⟨hacc, hDC, fresh _ (Nat.le_refl _)⟩
      · have hp : p ∈ own₀ := hp
        exact ⟨old _ _ (H p hp), (below _ (Heap.lt_size (H p hp))).1, hn p hp⟩
    have ap : Apart [(s.heap.objs.size, lstO #[] 0)] ([] ++ own₀) := by
      intro p hp q hq
      rw [List.mem_singleton.mp hp]
      exact fun e => (below _ (Heap.lt_size (H q hq))).2 e.symm
    exact compI (e := .ListComp elt [⟨target, iter, ifs, 0⟩] scope pos) (env := compEnvC scope cl H2.objs.size env) (ext := []) (by rfl) (by rfl) (fun _ _ _ h => h) I htk0 hbase hob J F₁ N₁ ap (fun _ h => nomatch h) hS hJ hsz
      (fun i v m ys k own s₁ => step _ _ _ rfl (Nat.le_refl _) S hGd i v m ys k own s₁) (fun m ys k s₁ J₁ Z₁ F₁ N₁ _ o₁ t₁ => done _ _ m ys k s₁ J₁ Z₁ F₁ N₁ o₁ t₁)
  have start : ∀ s₃ : Shared, s₃ = { s with heap := h₁, toks := s.toks + ([] : List (Str × Value)).length } →
      codeAny (model prog w) A (.compStart (.ListComp elt [⟨target, iter, ifs, 0⟩] scope pos) 0 it (.ref s.heap.objs.size) (compEnvC scope cl H2.objs.size env))
        (RR (.ref s.heap.objs.size) H2.objs.size) s₃ := by
    intro s₃ e
    refine codeAny_compStart_list (loop s₃ e) (self _ _ _ ?_ (loop s₃ e))
    subst e
    exact old
  exact start _ rfl

/-- what a comprehension needs of its iterator -/
inductive CompAt (prog : Program) (w : World) (A : Around) (h₀ : Heap) (os : OsState) (tk : Nat) (scope : Scope) (cl : List (Str × Addr)) (env : Env) (elt target : Expr) (ifs : List Expr) (Fin : Addr → Array Value → Nat → Shared → Prop) (it : Value) (s : Shared) : Prop where
  | mk {base hb : Heap} {tk0 n : Nat} {P : Nat → Value → Heap → Prop} {S : Nat → Own → Array GenState → Prop} {Z : Array GenState → Prop} {own₀ : Own}
    (I : ItOk prog w A target it hb tk0 n P S Z) (htk0 : tk0 ≤ s.toks) (hbase : base.NoLimit) (hob : Old hb base) (h0 : Old h₀ base) (hbs : Old base s.heap) (hbz : base.objs.size ≤ s.heap.objs.size)
    (H : Holds own₀ s.heap) (hn : ∀ p ∈ own₀, base.get? p.1 = none) (hS : S 0 own₀ s.gens)
    (self : ∀ (s' : Shared) (Q : Value → Shared → Prop) (E : Value → Shared → Prop), Old s.heap s'.heap → Q it s' → wpAny (model prog w) A (pyIter it) Q E s')
    (hos : s.os = os) (htk : tk ≤ s.toks)
    (Gd : Array GenState → Prop) (hGd : ∀ i own G, S i own G → Gd G) (J : Nat → (Str → Option Value) → Array Value → Prop) (hJ : J 0 (fun _ => none) #[]) (hsz : ∀ i m ys, i ≤ n → J i m ys → ys.size ≤ 1000000)
    (step : ∀ (s' : Shared) C D, s'.os = os → tk ≤ s'.toks → CStep prog w A base C D (compEnvC scope cl C env) target ifs elt n P J Gd [] s')
    (done : ∀ D m ys k (s' : Shared), J n m ys → Z s'.gens → Old h₀ s'.heap → s'.heap.get? D = some (lstO ys k) → h₀.get? D = none → s'.os = os → tk ≤ s'.toks → Fin D ys k s')

theorem Heap.SameBut.old' {C : Addr} {h h' h₀ : Heap} (hs : Heap.SameBut C h h') (o : Old h₀ h) (hC : h₀.get? C = none) : Old h₀ h' := fun b ob e => hs.extBut b ob (by rintro rfl; rw [hC] at e; cases e) (o b ob e)

theorem compE {elt target iter : Expr} {ifs : List Expr} {scope : Scope} {cl : List (Str × Addr)} {pos : Pos} {env : Env} {base : Heap} {m : Str → Option Value} {news : Own} {Q : Value → Shared → Prop}
    (F : Fr base env.locals s.heap m) (N : News base env.locals s.heap news)
    (h : wpAny (model prog w) A (eval iter env) (fun xv s₁ => wpAny (model prog w) A (pyIter xv) (fun it s₂ =>
      CompAt prog w A s.heap s.os s.toks scope cl env elt target ifs (fun D ys k s' => Fr base env.locals s'.heap m → News base env.locals s'.heap ([(D, lstO ys k)] ++ news) → Apart [(D, lstO ys k)] news → Q (.ref D) s') it s₂) E s₁) E s)
    (hclos : closureFor scope env = pure cl) (hcell : ∀ y ∈ scope.names, y.2 ≠ .cell) (hkind : scope.kind = .function) (hnames : ∀ x ∈ scope.names, x.2 = .local → scope.names.lookup x.1 = some .local)
    (hs : ∀ x, foldedSetIterable iter env x = pure x) :
    wpAny (model prog w) A (eval (.ListComp elt [⟨target, iter, ifs, 0⟩] scope pos) env) Q E s := by
  rw [eval_ListComp]
  refine wpAny_comprehension_free (use := none) rfl hs hclos hkind hnames (wpAny_mono h (fun xv s₁ h₁ => wpAny_mono h₁ (fun it s₂ h₂ => ?_) fun _ _ e => e) fun _ _ e => e)
  obtain ⟨I, htk0, hbase, hob, h0, hbs, hbz, H, hn, hS, self, hos, htk, Gd, hGd, J, hJ, hsz, step, done⟩ := h₂
  refine compBlock (RR := fun acc C => compPost (model prog w) A E none Q acc C) hcell hkind I htk0 hbase hob hbs hbz H hn hS self Gd hGd J hJ hsz (fun s' C D o t => step s' C D (o.trans hos) (Nat.le_trans htk t)) ?_
  intro D C mC ys k s' hJn hZ FC NC os' tk'
  refine ⟨mC, FC.ns, fun h' hs' => ?_⟩
  have hC0 : s.heap.get? C = none := by
    cases e : s.heap.get? C with
    | none => rfl
    | some o => exact absurd (Heap.lt_size (h0 _ _ e)) (Nat.not_lt.mpr FC.above)
  have ND := NC _ (.head _)
  have hD0 : s.heap.get? D = none := by
    cases e : s.heap.get? D with
    | none => rfl
    | some o => have := h0 _ _ e; rw [ND.2.2] at this; cases this
  have o' : Old s.heap h' := Heap.SameBut.old' hs' (fun b o e => FC.keep b o (h0 b o e)) hC0
  have hD' : h'.get? D = some (lstO ys k) := hs'.extBut _ _ ND.2.1 ND.1
  refine done D mC ys k { s' with heap := h' } hJn hZ o' hD' hD0 (os'.trans hos) (Nat.le_trans htk tk') (Fr.old F o') (News.join N F o' hD0 hD') ?_
  intro p hp q hq e
  rw [List.mem_singleton.mp hp] at e
  have := (N q hq).1
  rw [← e, hD0] at this; cases this

theorem compA {elt target iter : Expr} {ifs : List Expr} {scope : Scope} {cl : List (Str × Addr)} {pos spos py : Pos} {y : Str} {env : Env} {base : Heap} {m : Str → Option Value} {news : Own} {Q : Flow → Shared → Prop}
    (F : Fr base env.locals s.heap m) (N : News base env.locals s.heap news)
    (h : wpAny (model prog w) A (eval iter env) (fun xv s₁ => wpAny (model prog w) A (pyIter xv) (fun it s₂ =>
      CompAt prog w A s.heap s.os s.toks scope cl env elt target ifs (fun D ys k s' => ∀ h' tk', s.toks ≤ tk' → Fr base env.locals h' (fun z => if z = y then some (.ref D) else m z) → News base env.locals h' ([(D, lstO ys k)] ++ news) → Apart [(D, lstO ys k)] news → Q .next { s' with heap := h', toks := tk' }) it s₂) E s₁) E s)
    (hclos : closureFor scope env = pure cl) (hcell : ∀ y ∈ scope.names, y.2 ≠ .cell) (hkind : scope.kind = .function) (hnames : ∀ x ∈ scope.names, x.2 = .local → scope.names.lookup x.1 = some .local)
    (hs : ∀ x, foldedSetIterable iter env x = pure x)
    (hsw : swapsWith (.ListComp elt [⟨target, iter, ifs, 0⟩] scope pos) (some (.Name y py)) spos.line env = pure true)
    (hy : env.kindOf y = some .local) (hp : (env.scope.kind == .class || (env.scope.kind == .module && env.locals != env.globals)) = false) :
    wpAny (model prog w) A (exec (.Assign [.Name y py] (.ListComp elt [⟨target, iter, ifs, 0⟩] scope pos) spos) env) Q E s := by
  rw [exec_Assign_Name_used _ _ _ _ hsw]
  refine wpAny_bind (wpAny_standAt (wpAny_bind ?_))
  show wpAny _ A (do let _ ← comprehension (.ListComp elt [⟨target, iter, ifs, 0⟩] scope pos) scope env _ (newList []) false (eval iter env) (some (assign (.Name y py) env))) _ _ s
  refine wpAny_bind (wpAny_mono (wpAny_comprehension_free (use := some (assign (.Name y py) env)) (Q := fun _ s' => Q .next s') rfl hs hclos hkind hnames
    (wpAny_mono h (fun xv s₁ h₁ => wpAny_mono h₁ (fun it s₂ h₂ => ?_) fun _ _ e => e) fun _ _ e => e)) (fun _ s' hq => wpAny_pure (wpAny_pure hq)) fun _ _ e => e)
  obtain ⟨I, htk0, hbase, hob, h0, hbs, hbz, H, hn, hS, self, hos, htk, Gd, hGd, J, hJ, hsz, step, done⟩ := h₂
  refine compBlock (RR := fun acc C => compPost (model prog w) A E (some (assign (.Name y py) env)) (fun _ s' => Q .next s') acc C) hcell hkind I htk0 hbase hob hbs hbz H hn hS self Gd hGd J hJ hsz (fun s' C D o t => step s' C D (o.trans hos) (Nat.le_trans htk t)) ?_
  intro D C mC ys k s' hJn hZ FC NC os' tk'
  have hC0 : s.heap.get? C = none := by
    cases e : s.heap.get? C with
    | none => rfl
    | some o => exact absurd (Heap.lt_size (h0 _ _ e)) (Nat.not_lt.mpr FC.above)
  have ND := NC _ (.head _)
  have hD0 : s.heap.get? D = none := by
    cases e : s.heap.get? D with
    | none => rfl
    | some o => have := h0 _ _ e; rw [ND.2.2] at this; cases this
  have o1 : Old s.heap s'.heap := fun b o e => FC.keep b o (h0 b o e)
  have F1 := Fr.old F o1
  have N1 := News.join N F o1 hD0 ND.1
  have hLC : env.locals ≠ C := by rintro rfl; obtain ⟨o, _, _, ho, _⟩ := F.ns; rw [hC0] at ho; cases ho
  show wpAny _ A (assign (.Name y py) env (.ref D)) _ _ _
  refine wpAny_assign_Name (wpAny_storeName_local hy F1.ns (fun h₂ hn₂ hs₂ => ?_) hp)
  have F2 := F1.set hn₂ hs₂
  have N2 := N1.set hs₂
  refine ⟨mC, FC.ns.sameBut hs₂ (Ne.symm hLC), fun h₃ hs₃ => ?_⟩
  refine done D mC ys k s' hJn hZ o1 ND.1 hD0 (os'.trans hos) (Nat.le_trans htk tk') h₃ _ ?_ ⟨F2.ns.sameBut hs₃ hLC, fun b o e => hs₃.extBut b o ?_ (F2.keep b o e), F2.above⟩ ?_ ?_
  · dsimp only; exact Nat.le_succ_of_le (Nat.le_trans htk tk')
  · rintro rfl
    have := F.keep _ _ e
    rw [hC0] at this; cases this
  · intro p hp
    refine ⟨hs₃.extBut _ _ ?_ (N2 p hp).1, (N2 p hp).2⟩
    rcases List.mem_cons.mp hp with rfl | hp
    · exact ND.2.1
    · rintro rfl
      have := (N p hp).1
      rw [hC0] at this; cases this
  · intro p hp q hq e
    rw [List.mem_singleton.mp hp] at e
    have := (N q hq).1
    rw [← e, hD0] at this; cases this
end
end PartB13
end Mine

namespace Mine
section PartB14
open PySem PySem.W PySem.Calls PyProof.Rows
theorem get_size_none {h : Heap} : h.get? h.objs.size = none := by
  cases e : h.get? h.objs.size with
  | none => rfl
  | some o => exact absurd (Heap.lt_size e) (Nat.lt_irrefl _)

section
variable {prog : Program} {w : World} {A : Around} {E : Value → Shared → Prop} {s : Shared}

theorem ItOk.list {x : Str} {px : Pos} {h : Heap} {l I : Addr} {items : Array Value} (hh : A.handled = none) (G : Array GenState) (hne : l ≠ I) (hl : h.IsList l items) (hI : h.get? I = none) :
    ItOk prog w A (.Name x px) (.ref I) h 0 items.size (fun i v _ => items[i]? = some v) (SOf G [I] h fun i h' => h'.IsListIter I l i ∧ h'.IsList l items) (fun G' => G' = G) := by
  obtain ⟨ol, hol, _⟩ := id hl
  refine ItOk.ofTurns (hb := h) (ads := [I]) G (KTurns.ofWalks (target := .Name x px) (Walks.list (prog := prog) (w := w) hh I l hne items) fun _ _ _ _ _ _ h => goName h) (fun b hb => hb) (fun b hb => ?_) (fun b hb => by rw [List.mem_singleton.mp hb]; exact hI)
    (fun i h st b hb => by rw [List.mem_singleton.mp hb]; obtain ⟨⟨o, ho, _⟩, _⟩ := st; exact ⟨o, ho⟩)
  rcases List.mem_cons.mp hb with rfl | hb
  · exact .inl (.head _)
  · rw [List.mem_singleton.mp hb]; exact .inr ⟨_, hol⟩

theorem ItOk.range {x : Str} {px : Pos} {h : Heap} {I : Addr} {a : Int} {n : Nat} (hh : A.handled = none) (G : Array GenState) (hI : h.get? I = none) :
    ItOk prog w A (.Name x px) (.ref I) h 0 n (fun i v _ => ∃ t, v = .int (a + (i : Int)) t) (SOf G [I] h fun i h' => IsRangeIter h' I (a + (i : Nat) * 1) ((n : Int) - (i : Nat)) 1) (fun G' => G' = G) :=
  ItOk.ofTurns (hb := h) (ads := [I]) G (KTurns.ofWalks (target := .Name x px) (LCg.range_walks (prog := prog) (w := w) hh a n) fun _ _ _ _ _ _ h => goName h) (fun b hb => hb) (fun b hb => .inl hb) (fun b hb => by rw [List.mem_singleton.mp hb]; exact hI)
    (fun i h st b hb => by rw [List.mem_singleton.mp hb]; exact ⟨_, st⟩)

/-- for over a range -/
theorem forRange {R : Result → Shared → Prop} {x : Str} {px : Pos} {body orelse : List Stmt} {env : Env} {base : Heap} {r : Addr} {a b : Int} {t u v : Tok} {n : Nat} {s : Shared} {m₀ : Str → Option Value} {news₀ : Own}
    (hh : A.handled = none) (hr : IsRange s.heap r a b 1 t u v) (hsm : Builtin.Range.small a b 1 = true) (hn : Builtin.Range.rangeSize a b 1 = ((n : Nat) : Int)) (hbase : base.NoLimit) (J : Nat → (Str → Option Value) → Own → Prop)
    (F : Fr base env.locals s.heap m₀) (N : News base env.locals s.heap news₀) (hJ : J 0 m₀ news₀)
    (step : StepOk prog w A R (.Name x px) body env base n (fun i v _ => ∃ t, v = .int (a + (i : Int)) t) J (· = s.gens) s)
    (done : DoneOk prog w A R orelse env base n J (fun _ s₁ => s₁.gens = s.gens) s) :
    wpAny (model prog w) A (pyIter (.ref r)) (fun it s₂ => codeAny (model prog w) A (.forLoop (.Name x px) it body orelse env) R s₂) NoE s := by
  refine wpAny_pyIter_range hr hsm ?_
  have hI : base.get? s.heap.objs.size = none := by
    cases e : base.get? s.heap.objs.size with
    | none => rfl
    | some o => exact absurd (Heap.lt_size (F.keep _ _ e)) (Nat.lt_irrefl _)
  have I := ItOk.range (prog := prog) (w := w) (x := x) (px := px) (h := base) (I := s.heap.objs.size) (a := a) (n := n) hh s.gens hI
  rw [hn]
  let o : Obj := { cls := .type "range_iterator", data := .fields #[rawInt a, rawInt ((n : Nat) : Int), rawInt 1] }
  have F' : Fr base env.locals (s.heap.push o) m₀ := F.push o
  have N' : News base env.locals (s.heap.push o) ((s.heap.objs.size, o) :: news₀) := N.push F o
  refine forI (news₀ := news₀) (own₀ := [(s.heap.objs.size, o)]) I (Nat.zero_le _) hbase (fun _ _ e => e) J F' (news_app (fun p hp => N' p (.tail _ hp)) (fun p hp => N' p (by rw [List.mem_singleton.mp hp]; exact .head _))) ?_ ⟨rfl, rfl, fun h O H => ?_⟩ hJ (fun i v m news own s₁ => step _ (fun _ _ _ h => h.1) i v m news own s₁) (fun m news s₁ J₁ Z₁ => done m news s₁ J₁ Z₁)
  · intro p hp q hq e
    rw [List.mem_singleton.mp hq] at e
    have := Heap.lt_size (N p hp).1
    rw [e] at this; exact absurd this (Nat.lt_irrefl _)
  · have e := holds_one.mp H
    show h.get? _ = _
    rw [e]
    simp [o, rawInt]

/-- a comprehension over a list -/
theorem compList {os : OsState} {tk : Nat} {h₀ : Heap} {scope : Scope} {cl : List (Str × Addr)} {env : Env} {elt : Expr} {x : Str} {px : Pos} {ifs : List Expr} {Fin : Addr → Array Value → Nat → Shared → Prop} {l : Addr} {items : Array Value}
    (hh : A.handled = none) (hl : s.heap.IsList l items) (h0 : Old h₀ s.heap) (hlim : s.heap.NoLimit) (hos : s.os = os) (htk : tk ≤ s.toks)
    (J : Nat → (Str → Option Value) → Array Value → Prop) (hJ : J 0 (fun _ => none) #[]) (hsz : ∀ i m ys, i ≤ items.size → J i m ys → ys.size ≤ 1000000)
    (step : ∀ (s' : Shared) C D, s'.os = os → tk ≤ s'.toks → CStep prog w A s.heap C D (compEnvC scope cl C env) (.Name x px) ifs elt items.size (fun i v _ => items[i]? = some v) J (· = s.gens) [] s')
    (done : ∀ D m ys k (s' : Shared), J items.size m ys → s'.gens = s.gens → Old h₀ s'.heap → s'.heap.get? D = some (lstO ys k) → h₀.get? D = none → s'.os = os → tk ≤ s'.toks → Fin D ys k s') :
    wpAny (model prog w) A (pyIter (.ref l)) (CompAt prog w A h₀ os tk scope cl env elt (.Name x px) ifs Fin) E s := by
  have hlt : l < s.heap.objs.size := by obtain ⟨_, e, _⟩ := id hl; exact Heap.lt_size e
  have hne : l ≠ s.heap.objs.size := Nat.ne_of_lt hlt
  refine wpAny_pyIter_list hl ?_
  let o : Obj := { cls := .type "list_iterator", data := .fields #[.ref l, .int 0 0] }
  have ho : (s.heap.push o).get? s.heap.objs.size = some o := Heap.get?_push_size _ rfl
  refine .mk (base := s.heap) (own₀ := [(s.heap.objs.size, o)]) (ItOk.list hh s.gens hne hl get_size_none) (Nat.zero_le _) hlim (fun _ _ e => e) h0 (fun _ _ e => Heap.get?_push_of_some _ e) ?_ (holds_one.mpr ho) ?_ ⟨rfl, rfl, fun h O H => ?_⟩ ?_ hos htk
    (· = s.gens) (fun _ _ _ h => h.1) J hJ hsz step done
  · show s.heap.objs.size ≤ (s.heap.push o).objs.size
    rw [Heap.size_push]; exact Nat.le_succ _
  · intro p hp; rw [List.mem_singleton.mp hp]; exact get_size_none
  · exact ⟨⟨_, holds_one.mp H, rfl, rfl⟩, hl.at fun o e => O _ _ e⟩
  · intro s' Q E o' h
    exact wpAny_pyIter_listiter (i := 0) (l := l) ⟨_, o' _ _ ho, rfl, rfl⟩ h

/-- a comprehension over a range -/
theorem compRange {os : OsState} {tk : Nat} {h₀ : Heap} {scope : Scope} {cl : List (Str × Addr)} {env : Env} {elt : Expr} {x : Str} {px : Pos} {ifs : List Expr} {Fin : Addr → Array Value → Nat → Shared → Prop} {r : Addr} {a b : Int} {t u v : Tok} {n : Nat}
    (hh : A.handled = none) (hr : IsRange s.heap r a b 1 t u v) (hsm : Builtin.Range.small a b 1 = true) (hn : Builtin.Range.rangeSize a b 1 = ((n : Nat) : Int)) (h0 : Old h₀ s.heap) (hlim : s.heap.NoLimit) (hos : s.os = os) (htk : tk ≤ s.toks)
    (J : Nat → (Str → Option Value) → Array Value → Prop) (hJ : J 0 (fun _ => none) #[]) (hsz : ∀ i m ys, i ≤ n → J i m ys → ys.size ≤ 1000000)
    (step : ∀ (s' : Shared) C D, s'.os = os → tk ≤ s'.toks → CStep prog w A s.heap C D (compEnvC scope cl C env) (.Name x px) ifs elt n (fun i v _ => ∃ t, v = .int (a + (i : Int)) t) J (· = s.gens) [] s')
    (done : ∀ D m ys k (s' : Shared), J n m ys → s'.gens = s.gens → Old h₀ s'.heap → s'.heap.get? D = some (lstO ys k) → h₀.get? D = none → s'.os = os → tk ≤ s'.toks → Fin D ys k s') :
    wpAny (model prog w) A (pyIter (.ref r)) (CompAt prog w A h₀ os tk scope cl env elt (.Name x px) ifs Fin) E s := by
  refine wpAny_pyIter_range hr hsm ?_
  rw [hn]
  let o : Obj := { cls := .type "range_iterator", data := .fields #[rawInt a, rawInt ((n : Nat) : Int), rawInt 1] }
  have ho : (s.heap.push o).get? s.heap.objs.size = some o := Heap.get?_push_size _ rfl
  have key : ∀ h : Heap, h.get? s.heap.objs.size = some o → IsRangeIter h s.heap.objs.size (a + ((0 : Nat) : Nat) * 1) ((n : Int) - ((0 : Nat) : Nat)) 1 := by
    intro h e
    show h.get? _ = _
    rw [e]; simp [o, rawInt]
  refine .mk (base := s.heap) (own₀ := [(s.heap.objs.size, o)]) (ItOk.range hh s.gens get_size_none) (Nat.zero_le _) hlim (fun _ _ e => e) h0 (fun _ _ e => Heap.get?_push_of_some _ e) ?_ (holds_one.mpr ho) ?_ ⟨rfl, rfl, fun h O H => key h (holds_one.mp H)⟩ ?_ hos htk
    (· = s.gens) (fun _ _ _ h => h.1) J hJ hsz step done
  · show s.heap.objs.size ≤ (s.heap.push o).objs.size
    rw [Heap.size_push]; exact Nat.le_succ _
  · intro p hp; rw [List.mem_singleton.mp hp]; exact get_size_none
  · intro s' Q E o' h
    exact wpAny_pyIter_rangeiter (key _ (o' _ _ ho)) h
end

section
variable {prog : Program} {w : World} {d u : Nat} {fr : Option (List Env)} {gd : Option (List Code)} {s : Shared} {loose : List Str} {mean : ExcName → Option Value} {mg mb : Str → Option Value} {Q E : Value → Shared → Prop}
/-- a comprehension over the generator of a text -/
theorem compGen {os : OsState} {tk : Nat} {h₀ : Heap} {scope : Scope} {cl : List (Str × Addr)} {env : Env} {elt : Expr} {elts : List Expr} {kk : Nat} {px : Pos} {ifs : List Expr} {Fin : Addr → Array Value → Nat → Shared → Prop} {x : Str} {t : Tok}
    (hx : 0 < x.cps.size) (hroom : d + 3 < recursionLimit) (KX : (Mine.hd.heap_39 w.params).In s.heap) (T : Top Mine.hd.view_39 loose mean mg mb s.heap) (h0 : Old h₀ s.heap) (hos : s.os = os) (htk : tk ≤ s.toks)
    (J : Nat → (Str → Option Value) → Array Value → Prop) (hJ : J 0 (fun _ => none) #[]) (hsz : ∀ i m ys, i ≤ (escs x.cps.toList 0 false).length → J i m ys → ys.size ≤ 1000000)
    (step : ∀ (s' : Shared) C D, s'.os = os → tk ≤ s'.toks → CStep prog w (Ar d u fr gd) s.heap C D (compEnvC scope cl C env) (.Tuple elts kk px) ifs elt (escs x.cps.toList 0 false).length (ItemP (escs x.cps.toList 0 false) s.toks) J (fun _ => True) [] s')
    (done : ∀ D m ys k (s' : Shared), J (escs x.cps.toList 0 false).length m ys → s'.gens = s.gens.push .finished → Old h₀ s'.heap → s'.heap.get? D = some (lstO ys k) → h₀.get? D = none → s'.os = os → tk ≤ s'.toks → Fin D ys k s') :
    wpAny (model prog w) (Ar d u fr gd) (call (.ref 77) [.str x t]) (fun xv s₁ => wpAny (model prog w) (Ar d u fr gd) (pyIter xv) (CompAt prog w (Ar d u fr gd) h₀ os tk scope cl env elt (.Tuple elts kk px) ifs Fin) E s₁) E s := by
  refine iter_c (hb := s.heap) hx hroom KX T (fun _ _ e => e) (Nat.le_refl _) ?_
  intro a S own s2 hIt hS0 hH hnew hold2 hos2 htk2 hgen2 hasz
  refine wpAny_pyIter_gen hgen2 ?_
  refine .mk (base := s.heap) (own₀ := own) (hIt _ _ _) htk2 T.nolimit (fun _ _ e => e) h0 hold2 ?_ hH hnew hS0 ?_ (hos2.trans hos) (Nat.le_trans htk htk2) (fun _ => True) (fun _ _ _ _ => trivial) J hJ hsz step done
  · obtain ⟨o, _, _, ho, _⟩ := hgen2; exact Nat.le_of_lt (Nat.lt_of_le_of_lt hasz (Heap.lt_size ho))
  · intro s' Q E o' h
    obtain ⟨o, nm, qn, ho, r⟩ := hgen2
    exact wpAny_pyIter_gen ⟨o, nm, qn, o' _ _ ho, r⟩ h
end
end PartB14
end Mine

namespace Mine
section PartB15
open PySem PySem.W PySem.Calls PyProof.Rows
/-- entering a def with cells -/
theorem enterC {prog : Program} {w : World} {A : Around} {E : Value → Shared → Prop} {s : Shared} {K : Frag} {p : Program} {loose : List Str} {mean : ExcName → Option Value} {mg mb : Str → Option Value} {Q : Value → Shared → Prop}
    {name qual : Str} {params : Arguments} {body : List Stmt} {scope : Scope} {dV kV doc pm cdv ct oc : Value} {an od : Option Addr} {osl : Array (Option Value)} {f : Addr} {args : List Value} {binds : List (Str × Value)}
    (X : K.In s.heap) (T : Top p loose mean mg mb s.heap)
    (ho : K.lookup f = some ⟨oc, od, .func (fnOf name qual params body scope dV kV doc pm an cdv ct), osl⟩) (hcd : codeIn K cdv qual = true) (hroom : A.depth < recursionLimit)
    (hbind : bindArgs (fnOf name qual params body scope dV kV doc pm an cdv ct) ⟨args, []⟩ = pure binds)
    (hkind : ∀ n, ∀ x ∈ binds, scope.names.lookup x.1 = some .local ∨ (scope.names.lookup x.1 = some .cell ∧ ((cellsFrom n scope.names []).lookup x.1).isSome = true))
    (hnd : ((cellsFrom 0 scope.names []).map (·.1)).Nodup)
    (h : ∀ L h₁ tk cells, Fr s.heap L h₁ (bindL (envOfC qual scope L f cdv).kindOf binds fun _ => none) → News s.heap L h₁ cells →
      CellsAre (bindC (envOfC qual scope L f cdv).kindOf binds fun _ => none) (cellsFrom (L + 1) scope.names []) cells → Old s.heap h₁ → s.toks ≤ tk →
      wpAny (model prog w) (A.deeper (envOfC qual scope L f cdv)) (execs body (envOfC qual scope L f cdv))
        (fun fl s' => s.toks ≤ s'.toks → Q (match fl with | .ret v => v | _ => .none) s') NoE { s with heap := h₁, toks := tk })
    (hco : scope.isCoroutine = false) (hgen : scope.isGenerator = false) (hk : scope.kind = .function) :
    wpAny (model prog w) A (call (.ref f) args) Q E s := by
  refine wpAny_mono (wpAny_toks_of (Nat.le_refl s.toks) (?_ : wpAny (model prog w) A (call (.ref f) args) (fun v s' => s.toks ≤ s'.toks → Q v s') NoE s)) (fun _ _ x => x.2 x.1) fun _ _ x => x.2.elim
  refine wpAny_call (codeAny_call_function (fd := fnOf name qual params body scope dV kV doc pm an cdv ct) (body := body) hroom (X _ _ ho) rfl hco hgen rfl (codeRec_of X hcd) (BindsTo.of_eq hbind _ _ _ _ ?_))
  refine wpAny_mono (wpAny_toks_of (Nat.le_refl s.toks) (wpAny_newFunctionEnv_cells (E := fun _ _ => False) (Q := fun env s₂ => s.toks ≤ s₂.toks → s₂.heap.NoLimit ∧ codeAny (model prog w) A (.func body env) (fun r s' => match r with | .ok (.ret v) => s.toks ≤ s'.toks → Q v s' | .ok _ => False | .error _ => False) s₂) hk (hkind _) fun env' he s' x => ?_)) (fun _ _ y => ?_) fun _ _ y => y.2.elim
  · subst he
    intro htk
    refine ⟨T.nolimit.keeps x.toInCall.keep, codeAny_func ?_⟩
    obtain ⟨h₁, tk, rfl, _⟩ := x.done
    have hk₁ := x.toInCall.keep
    obtain ⟨cells, NC, Y⟩ := Cl.news (h₀ := s.heap) (Nat.le_refl _) fun n c hm => ⟨x.cell n c (lookup_of_mem_nodup (cellsFrom_names scope.names 0 (s.heap.objs.size + 1) [] [] rfl ▸ hnd) hm), x.above n c hm⟩
    refine wpAny_mono (h s.heap.objs.size h₁ tk cells ⟨x.toInCall.ns, hk₁, Nat.le_refl _⟩ NC Y hk₁ htk) (fun fl s' hl => ?_) fun _ _ y => y.elim
    exact hl
  · have := y.2 y.1
    exact ⟨this.1, codeAny_mono this.2 fun r s' hr => by cases r with | ok f => (cases f <;> exact hr) | error e => exact hr⟩
end PartB15
end Mine

namespace Mine
section PartB16
open PySem PySem.W PySem.Calls PyProof.Rows
section
variable {prog : Program} {w : World} {A : Around} {E : Value → Shared → Prop} {s : Shared}
theorem strItem {value slice : Expr} {x : Str} {t : Tok} {k : Int} {u : Tok} {c : Nat} {Q : Value → Shared → Prop}
    (h0 : 0 ≤ k) (hfit : k < 2 ^ 63) (hx : x.cps[k.toNat]? = some c) (h : Q (.str ⟨#[c]⟩ s.toks) { s with toks := s.toks + 1 })
    (hs : subscripted slice false (.str x t) (.int k u) = operate [.str x t, .int k u] (getItem (.str x t) (.int k u)) := by with_unfolding_all rfl) :
    wpAny (model prog w) A (subscriptTail value slice (.str x t) (.int k u)) Q E s := by
  have hn : k.toNat < x.cps.size := by
    obtain ⟨h, _⟩ := Array.getElem?_eq_some_iff.mp hx; exact h
  have hl : k < (x.length : Int) := by show k < ((x.cps.size : Nat) : Int); omega
  have e : (seqIndex? k x.length).bind (x.cps[·]?) = some c := by
    rw [seqIndex_of h0 hl]
    exact hx
  exact subscriptTail_builtinR (x := .str ⟨#[c]⟩ s.toks) (typeIs_str _ _ _) F.slot_str_getitem.lookup (P.getItem_str (by rw [Bool.or_eq_false_iff]; exact ⟨decide_eq_false (by omega), decide_eq_false (by omega)⟩) e ⟨rfl, h⟩) hs
end
theorem cat_empty {x y : Str} (h : x.length = 0) : x ++ y = y := by
  obtain ⟨c⟩ := x
  have : c = #[] := Array.eq_empty_of_size_eq_zero h
  subst this
  show (⟨#[] ++ y.cps⟩ : Str) = y
  simp
theorem cat_empty_r {x y : Str} (h : y.length = 0) : x ++ y = x := by
  obtain ⟨c⟩ := y
  have : c = #[] := Array.eq_empty_of_size_eq_zero h
  subst this
  show (⟨x.cps ++ #[]⟩ : Str) = x
  simp
theorem cat_len (x y : Str) : (x ++ y).length = x.length + y.length := by
  show (x.cps ++ y.cps).size = _
  rw [Array.size_append]; rfl
theorem addR {prog : Program} {w : World} {A : Around} {E : Value → Shared → Prop} {s : Shared} {x y : Str} {t u : Tok} {Q : Value → Shared → Prop} (hsz : x.length + y.length ≤ sizeLine)
    (h : ∀ t k, s.toks ≤ k → Q (.str (x ++ y) t) { s with toks := k }) : wpAny (model prog w) A (binaryOp .Add (.str x t) (.str y u)) Q E s := by
  refine P.add_str ?_
  by_cases hx : x.length = 0
  · rw [if_pos (by simpa using hx)]
    have := h u s.toks (Nat.le_refl _)
    rw [cat_empty hx] at this; exact this
  · rw [if_neg (by simpa using hx)]
    by_cases hy : y.length = 0
    · rw [if_pos (by simpa using hy)]
      have := h t s.toks (Nat.le_refl _)
      rw [cat_empty_r hy] at this; exact this
    · rw [if_neg (by simpa using hy)]
      exact ⟨by show (x ++ y).length ≤ _; rw [cat_len]; exact hsz, h _ _ (Nat.le_succ _)⟩
theorem rangeC {prog : Program} {w : World} {A : Around} {E : Value → Shared → Prop} {s : Shared} {h₀ : Heap} {L : Addr} {m : Str → Option Value} {news : Own} {n : Int} {t : Tok} {Q : Value → Shared → Prop} (F : Fr h₀ L s.heap m) (N : News h₀ L s.heap news)
    (h : ∀ h' r t u v tk, s.toks ≤ tk → IsRange h' r 0 n 1 t u v → Fr h₀ L h' m → News h₀ L h' news → Q (.ref r) { s with heap := h', toks := tk }) : wpAny (model prog w) A (call (.type "range") [.int n t]) Q E s :=
  call_range_1 (h _ _ _ _ _ _ (Nat.le_add_right _ 2) (IsRange.new _ _ _ _ _ _ _) (F.push _) (fun p hp => (N.push F _) p (.tail _ hp)))
/-- the text that a row and names give -/
def bit (x : Str) (k : Int) : Bool := Txt.item x k == Str.ofString "1"
def textStep (x : Str) (k : Int) (acc nm : Str) : Str :=
  if 0 < k ∧ bit x (k - 1) = true then acc ++ nm ++ Str.ofString "\""
  else if k < (x.length : Int) ∧ bit x k = true then acc ++ Str.ofString "\"" ++ nm
  else acc ++ nm
theorem textStep_1 {x acc nm : Str} {k : Int} (h : 0 < k) (hb : (Txt.item x (k - 1) == Str.ofString "1") = true) : textStep x k acc nm = acc ++ nm ++ Str.ofString "\"" := if_pos ⟨h, hb⟩
theorem textStep_2 {x acc nm : Str} {k : Int} (h : ¬ 0 < k ∨ (Txt.item x (k - 1) == Str.ofString "1") = false) (h2 : k < (x.length : Int)) (hb : (Txt.item x k == Str.ofString "1") = true) : textStep x k acc nm = acc ++ Str.ofString "\"" ++ nm := by
  unfold textStep
  rw [if_neg (by rintro ⟨a, b⟩; rcases h with h | h; exact h a; rw [bit, h] at b; cases b), if_pos ⟨h2, hb⟩]
theorem textStep_3 {x acc nm : Str} {k : Int} (h : ¬ 0 < k ∨ (Txt.item x (k - 1) == Str.ofString "1") = false) (h2 : ¬ k < (x.length : Int) ∨ (Txt.item x k == Str.ofString "1") = false) : textStep x k acc nm = acc ++ nm := by
  unfold textStep
  rw [if_neg (by rintro ⟨a, b⟩; rcases h with h | h; exact h a; rw [bit, h] at b; cases b), if_neg (by rintro ⟨a, b⟩; rcases h2 with h | h; exact h a; rw [bit, h] at b; cases b)]
def textP (x : Str) (nms : List Str) : Nat → Str
  | 0 => Str.ofString ""
  | i + 1 => textStep x (0 + (i : Int)) (textP x nms i) (nms.getD (0 + (i : Int)).toNat Str.empty)
theorem textP_len {x : Str} {nms : List Str} (h : ∀ y ∈ nms, y.length ≤ 10) : ∀ i, (textP x nms i).length ≤ 12 * i
  | 0 => Nat.le_refl _
  | i + 1 => by
    have ih := textP_len (x := x) h i
    have hn : (nms.getD (0 + (i : Int)).toNat Str.empty).length ≤ 10 := by
      rw [List.getD_eq_getElem?_getD]
      cases e : nms[(0 + (i : Int)).toNat]? with
      | none => exact Nat.zero_le _
      | some y => exact h y (List.mem_of_getElem? e)
    have h1 : (Str.ofString "\"").length = 1 := rfl
    unfold textP textStep
    split
    · simp only [cat_len, h1]; omega
    · split
      · simp only [cat_len, h1]; omega
      · simp only [cat_len]; omega
theorem escs_two : ∀ (l : List Nat) (i : Nat) (b : Bool), ∀ q ∈ escs l i b, q.2.length ≤ 2
  | [], _, true => fun q hq => by
    simp only [escs, List.mem_singleton] at hq
    subst hq; exact (show (1 : Nat) ≤ 2 by decide)
  | [], _, false => fun _ hq => nomatch hq
  | c :: r, i, true => fun q hq => by
    simp only [escs, List.mem_cons] at hq
    rcases hq with rfl | hq
    · exact (show (2 : Nat) ≤ 2 by decide)
    · exact escs_two r _ _ q hq
  | c :: r, i, false => fun q hq => by
    unfold escs at hq
    split at hq
    · exact escs_two r _ _ q hq
    · rcases List.mem_cons.mp hq with rfl | hq
      · exact (show (1 : Nat) ≤ 2 by decide)
      · exact escs_two r _ _ q hq
def sliceOk (x : Str) (q : Nat × Str) : Bool := Txt.slice x (some ((q.1 : Int) + 1 - (q.2.length : Int))) (some ((q.1 : Int) + 1)) == q.2
def unitsP (x : Str) : List Str := ((escs x.cps.toList 0 false).filter (sliceOk x)).map (·.2)
theorem filt_true {x : Str} {i p : Nat} {u : Str} (h : (escs x.cps.toList 0 false)[i]? = some (p, u)) (hs : sliceOk x (p, u) = true) :
    (((escs x.cps.toList 0 false).take (i + 1)).filter (sliceOk x)).map (·.2) = (((escs x.cps.toList 0 false).take i).filter (sliceOk x)).map (·.2) ++ [u] := by
  rw [List.take_add_one, h, List.filter_append, List.map_append]
  simp [hs]
theorem filt_false {x : Str} {i p : Nat} {u : Str} (h : (escs x.cps.toList 0 false)[i]? = some (p, u)) (hs : sliceOk x (p, u) = false) :
    (((escs x.cps.toList 0 false).take (i + 1)).filter (sliceOk x)).map (·.2) = (((escs x.cps.toList 0 false).take i).filter (sliceOk x)).map (·.2) := by
  rw [List.take_add_one, h, List.filter_append, List.map_append]
  simp [hs]
/-- what the last block of _law_left keeps -/
def foundP (sgs us : List Str) : List Nat := (us.filter fun u => sgs.any fun y => y == u).map fun u => sgs.idxOf u
theorem found_true {sgs us : List Str} {i : Nat} {u : Str} (h : us[i]? = some u) (hs : (sgs.any fun y => y == u) = true) : foundP sgs (us.take (i + 1)) = foundP sgs (us.take i) ++ [sgs.idxOf u] := by
  unfold foundP
  rw [List.take_add_one, h, List.filter_append, List.map_append]
  simp only [Option.toList_some, List.filter_cons, hs, if_true, List.filter_nil, List.map_cons, List.map_nil]
theorem found_false {sgs us : List Str} {i : Nat} {u : Str} (h : us[i]? = some u) (hs : (sgs.any fun y => y == u) = false) : foundP sgs (us.take (i + 1)) = foundP sgs (us.take i) := by
  unfold foundP
  rw [List.take_add_one, h, List.filter_append, List.map_append]
  simp only [Option.toList_some, List.filter_cons, hs, Bool.false_eq_true, if_false, List.filter_nil, List.map_nil, List.append_nil]
def leftP (x : Str) (nms sgs : List Str) : List Nat := foundP sgs (unitsP (stripP (textP x nms nms.length ++ Str.ofString "\\")))
end PartB16
end Mine

namespace Mine
section PartB17a
open PySem PySem.W PySem.Calls PyProof.Rows
theorem strs_last : ∀ {vs : List Value} {us : List Str} {y : Str}, StrsAre vs us → us.getLast? = some y → ∃ vs' t, vs = vs' ++ [.str y t]
  | [], us, y, h, e => by cases h; cases e
  | [v], us, y, h, e => by
    cases h with
    | cons z t h' =>
      cases h'
      simp at e
      subst e
      exact ⟨[], t, rfl⟩
  | v :: v' :: vs, us, y, h, e => by
    cases h with
    | cons z t h' =>
      cases h' with
      | cons z' t' h'' =>
        rw [List.getLast?_cons_cons] at e
        obtain ⟨vs', t9, e'⟩ := strs_last (.cons z' t' h'') e
        exact ⟨_ :: vs', t9, by rw [e']; rfl⟩
theorem pick_last {ys : Array Value} {l : List Value} {v : Value} (h : ys.toList = l ++ [v]) : slicePick ys (some (-1)) none none = #[v] := by
  have hn : ys.size = l.length + 1 := by rw [← Array.length_toList, h]; simp
  have e1 : sliceBounds (some (-1)) none none ys.size = ((l.length : Int), ((l.length + 1 : Nat) : Int), 1) := by
    rw [hn]
    unfold sliceBounds
    simp only [Option.getD_none, show (1 : Int) > 0 by decide, if_true, show (-1 : Int) < 0 by decide]
    refine Prod.ext ?_ (Prod.ext rfl rfl)
    show max 0 (min (-1 + ((l.length + 1 : Nat) : Int)) _) = _
    omega
  unfold slicePick
  rw [e1]
  have e2 : sliceRange (l.length : Int) ((l.length + 1 : Nat) : Int) 1 = [l.length] := by
    unfold sliceRange
    simp only [show (1 : Int) > 0 by decide, if_true]
    rw [if_pos (by omega), show (((l.length + 1 : Nat) : Int) - (l.length : Int) + 1 - 1) / 1 = 1 by omega]
    simp
  show ((sliceRange _ _ _).filterMap _).toArray = _
  rw [e2]
  have e3 : ys[l.length]? = some v := by rw [← Array.getElem?_toList, h]; simp
  simp [e3]
theorem strs_item : ∀ {vs : List Value} {us : List Str} {i : Nat} {v : Value}, StrsAre vs us → vs[i]? = some v → ∃ u t, v = .str u t ∧ us[i]? = some u
  | _, _, _, _, .nil, e => nomatch e
  | _, _, 0, _, .cons z t h, e => by
    simp at e
    exact ⟨z, t, e.symm, rfl⟩
  | _, _, i + 1, _, .cons z t h, e => by
    simp only [List.getElem?_cons_succ] at e ⊢
    exact strs_item h e
theorem slice_last {prog : Program} {w : World} {A : Around} {E : Value → Shared → Prop} {s : Shared} {h₀ : Heap} {L : Addr} {m : Str → Option Value} {news : List (Addr × Obj)} {value slice : Expr} {l : Addr} {items : Array Value} {vs' : List Value} {v : Value} {tk : Tok} {Q : Value → Shared → Prop}
    (F : Fr h₀ L s.heap m) (N : News h₀ L s.heap news) (hl : s.heap.IsList l items) (hv : items.toList = vs' ++ [v])
    (h : ∀ h', Fr h₀ L h' m → News h₀ L h' ((s.heap.objs.size + 1, { cls := .type "list", data := .seq #[v] }) :: news) → Q (.ref (s.heap.objs.size + 1)) { s with heap := h' })
    (hsz : items.size ≤ sizeLine)
    (hs : subscripted slice false (.ref l) (.ref s.heap.objs.size) = operate [.ref s.heap.objs.size, .ref l] (getItem (.ref l) (.ref s.heap.objs.size)) := by with_unfolding_all rfl)
    (ht : ∀ r, letTemporaryGo value (.ref l) r = pure () := by intro _; with_unfolding_all rfl) :
    wpAny (model prog w) A (subscriptTail value slice (.ref l) (.ref s.heap.objs.size)) Q E { s with heap := s.heap.push { cls := .type "slice", data := .fields #[.int (-1) tk, .none, .none] } } := by
  refine slice_list F N hl (.int _ _) .none (fun h' F' N' => ?_) hs ht hsz
  rw [pick_last hv] at N'
  exact h h' F' N'
end PartB17a
end Mine

namespace Mine
section PartB17
open PySem PySem.W PySem.Calls PyProof.Rows
/-- a mark at which a walk stops -/
def Stop (P : Prop) : Prop := P
theorem stopI {P : Prop} (h : Stop P) : P := h
section
variable {prog : Program} {w : World} {A : Around} {E : Value → Shared → Prop} {s : Shared}
theorem ldLoc {h₀ : Heap} {m : Str → Option Value} {env : Env} {x : Str} {pos : Pos} {v : Value} {Q : Value → Shared → Prop} (F : Fr h₀ env.locals s.heap m) (hv : m x = some v) (h : Q v s)
    (hk : env.scope.kind = .function := by rfl) (hx : env.kindOf x = some .local := by rfl) (hd : (x == ("__debug__" : Str)) = false := by decide) :
    wpAny (model prog w) A (eval (.Name x pos) env) Q E s := wpAny_Name (wpAny_loadName_local hk hx F.ns hv h) hd
theorem ldCellB {h₀ : Heap} {L c : Addr} {m : Str → Option Value} {env : Env} {x : Str} {pos : Pos} {o : Obj} {v : Value} {Q : Value → Shared → Prop} (F : Fr h₀ L s.heap m) (hc : env.cells.lookup x = some c) (hb : h₀.get? c = some o) (hd : o.data = .cell (some v)) (h : Q v s)
    (hk : env.scope.kind = .function := by rfl) (hx : env.kindOf x = some .cell := by rfl) (hg : (x == ("__debug__" : Str)) = false := by decide) :
    wpAny (model prog w) A (eval (.Name x pos) env) Q E s := wpAny_Name (wpAny_loadName_cell hk hx hc ⟨o, F.keep _ _ hb, hd⟩ h) hg
theorem storeG {h₀ : Heap} {m : Str → Option Value} {env : Env} {x : Str} {v : Value} {news : Own} {Q : Unit → Shared → Prop} (F : Fr h₀ env.locals s.heap m) (N : News h₀ env.locals s.heap news)
    (h : ∀ h', Fr h₀ env.locals h' (fun y => if y = x then some v else m y) → News h₀ env.locals h' news → Q () { s with heap := h', toks := s.toks + 1 })
    (hx : env.kindOf x = some .local := by rfl) (hp : (env.scope.kind == .class || (env.scope.kind == .module && env.locals != env.globals)) = false := by rfl) :
    wpAny (model prog w) A (storeName env x v) Q E s :=
  wpAny_storeName_local hx F.ns (fun h' hn hs => h h' (F.set hn hs) (N.set hs)) hp
end
local macro_rules | `(tactic| walk_at "eval Name") => `(tactic| (k_here; k_dflt (refine' ldLoc ?k1 ?k2 ?_; (case k1 => first | k_asm | assumption); (case k2 => first | assumption | exact rfl); k_whole)))
local macro_rules | `(tactic| walk_at "eval Name") => `(tactic| (k_here; k_dflt (refine' ldCellB ?k1 ?k2 ?k3 ?k4 ?_; (case k1 => first | k_asm | assumption); (case k2 => exact rfl); (case k3 => assumption); (case k4 => assumption); k_whole)))
local macro_rules | `(tactic| walk_at "storeName") => `(tactic| ((with_reducible show wpAny _ _ (storeName (compEnvC _ _ _ _) _ _) _ _ _); k_dflt (refine' storeG ?F ?N ?_; (case F => k_asm); (case N => k_asm); k_whole); intro h' F' N'))
local macro_rules | `(tactic| walk_at "subscriptTail Name Slice ref ref") => `(tactic| refine stopI ?_)
local macro_rules | `(tactic| walk_at "compareOp NotEq ref ref") => `(tactic| refine stopI ?_)
local macro_rules | `(tactic| walk_at "forIn") => `(tactic| (k_dflt (refine wpAny_tests_one ?_)))
local macro_rules | `(tactic| walk_at "testsOf") => `(tactic| (k_dflt (refine wpAny_tests_one ?_)))
local macro_rules | `(tactic| walk_at "call builtin:len") => `(tactic| ((with_reducible show wpAny _ _ (call (Value.builtin _) [Value.ref _]) _ _ _); refine' len_list (by is_list) ?z ?_; (case z => (simp only [List.size_toArray]; omega)); k_whole))
local macro_rules | `(tactic| walk_at "call builtin:len") => `(tactic| ((with_reducible show wpAny _ _ (call (Value.builtin _) [Value.str _ _]) _ _ _); refine' P.len_str ?z ?_; (case z => omega); k_whole))
local macro_rules | `(tactic| walk_at "subscriptTail") => `(tactic| ((with_reducible show wpAny _ _ (subscriptTail _ _ (Value.ref _) (Value.int _ _)) _ _ _); refine' item_strsR ?hl ?hi ?h0 ?h1 ?h2 ?_; (case hl => is_list); (case hi => assumption); (case h0 => omega); (case h1 => omega); (case h2 => omega); intro _))
local macro_rules | `(tactic| walk_at "binaryOp Add str str") => `(tactic| (k_dflt (refine' addR ?z ?_; (case z => ((try simp only [cat_len, show (Str.ofString "\"").length = 1 from rfl, show (Str.ofString "\\").length = 1 from rfl]); (show _ ≤ 16777216); omega))); intro _ _ _))
local macro_rules | `(tactic| walk_at "call type:range") => `(tactic| (k_here; k_dflt (refine' rangeC ?F ?N ?_; (case F => k_asm); (case N => k_asm); k_whole); intro h' r' t' u' v' tk' l' R' F' N'))
local macro_rules | `(tactic| walk_at "exec For Name Call cons nil") => `(tactic| k_dflt (refine forS ?_))
local macro_rules | `(tactic| walk_at "pyIter ref") => `(tactic| refine stopI ?_)
local macro_rules | `(tactic| walk_at "call ref") => `(tactic| refine stopI ?_)
local macro_rules | `(tactic| walk_at "eval ListComp") => `(tactic| refine stopI ?_)
local macro_rules | `(tactic| walk_at "exec Assign cons ListComp") => `(tactic| refine stopI ?_)
theorem fillK12 (w : World) : PySem.Challenge.rw_ux0008_01 = PySem.Challenge.rw_ux0008_01 ∧ Mine.hd.heap_39 w.params = Mine.hd.heap_39 w.params := by
  k_fill
  exact ⟨rfl, rfl⟩
section
variable {prog : Program} {w : World} {d u : Nat} {fr : Option (List Env)} {gd : Option (List Code)} {s : Shared} {loose : List Str} {mean : ExcName → Option Value} {mg mb : Str → Option Value} {Q E : Value → Shared → Prop}
theorem left_c {x : Str} {tx : Tok} {l1 l2 : Addr} {vs1 vs2 : List Value} {nms sgs : List Str} (hl1 : s.heap.IsList l1 vs1.toArray) (hs1 : StrsAre vs1 nms) (hl2 : s.heap.IsList l2 vs2.toArray) (hs2 : StrsAre vs2 sgs)
   (hn : nms.length ≤ 5) (hx : x.length + 1 = nms.length) (hnm : ∀ y ∈ nms, y.length ≤ 10)
   (hsh : 0 < (stripP (textP x nms nms.length ++ Str.ofString "\\")).cps.size) (hsh2 : (stripP (textP x nms nms.length ++ Str.ofString "\\")).length ≤ 1000)
   (hlast : (unitsP (stripP (textP x nms nms.length ++ Str.ofString "\\"))).getLast? = some (Str.ofString "\\"))
   (ht0 : 0 < s.toks) (htv2 : ∀ x t, Value.str x t ∈ vs2 → t ≠ 0 ∧ t < s.toks) (hu : u + 1000 < cLine) (hroom : d + 8 < recursionLimit) (KX : (Mine.hd.heap_39 w.params).In s.heap) (T : Top Mine.hd.view_39 loose mean mg mb s.heap)
   (hQ : ∀ D ys k s', Kp s s' → s.heap.get? D = none → s'.heap.get? D = some (lstO ys k) → IntsAre ys.toList ((leftP x nms sgs).map fun (n : Nat) => (n : Int)) → ys.size ≤ 2000 → Q (.ref D) s') :
   wpAny (model prog w) (Ar d u fr gd) (call (.ref 101) [.str x tx, .ref l1, .ref l2]) Q E s := by
  have hvs1 : vs1.length = nms.length := hs1.length
  refine' enterC (binds := [(Str.ofString "row", .str x tx), (Str.ofString "names", .ref l1), (Str.ofString "signs", .ref l2)]) KX T ?ho ?hcd ?hr ?hb ?hkind ?hnd ?_ ?h1 ?h2 ?h3
  case ho => k_is
  case hcd => k_is
  case hr => (dsimp only [Around.deeper, Around.in1]; omega)
  case hb => exact rfl
  case hkind => exact kindsX (by rfl)
  case hnd => decide +kernel
  case h1 => exact rfl
  case h2 => exact rfl
  case h3 => exact rfl
  intro L h₁ tk cells F N Y hk htk
  obtain ⟨o1, o2, rfl, d1, d2⟩ := CellsAre.two Y
  clear Y
  try dsimp only
  k_steps
  rename IsRange _ _ _ _ _ _ _ _ => hR
  rename Fr _ _ _ _ => F1
  rename News _ _ _ _ => N1
  unfold Stop

  have hsz : vs1.toArray.size = nms.length := by rw [List.size_toArray, hvs1]
  refine forRange (base := s.heap) (n := nms.length) rfl hR ?_ ?_ T.nolimit (fun i m news => ∃ z t, m (Str.ofString "text") = some (.str z t) ∧ z = textP x nms i ∧ m (Str.ofString "names") = some (.ref l1) ∧ m (Str.ofString "row") = some (.str x tx) ∧
    news = [(L + 1 + 1, o1), (L + 1, o2)]) F1 N1 ?_ ?_ ?_
  · rw [hsz]; exact small_one (by decide) (by decide) (by omega) (by omega)
  · rw [hsz, rangeSize_one]; split <;> omega
  · exact ⟨_, _, rfl, rfl, rfl, rfl, rfl⟩
  · rintro S hSG i v m news own s₁ hi ⟨_, tt, h1, rfl, h2, h3, rfl⟩ ⟨tv, rfl⟩ S₁ F₁ N₁ a₁ o₁ t₁
    have hB := textP_len (x := x) hnm i
    have hN : (nms.getD (0 + (i : Int)).toNat Str.empty).length ≤ 10 := by
      rw [List.getD_eq_getElem?_getD]
      cases e : nms[(0 + (i : Int)).toNat]? with
      | none => exact Nat.zero_le _
      | some y => exact hnm y (List.mem_of_getElem? e)
    k_steps
    all_goals
      rename Fr _ _ _ _ => FE
      rename News _ _ _ _ => NE
      refine ⟨⟨_, _, own, FE, NE, a₁, S₁, ?_⟩, o₁, by assumption⟩
      refine ⟨_, _, rfl, ?_, h2, h3, rfl⟩
      show _ = textStep x (0 + (i : Int)) (textP x nms i) (nms.getD (0 + (i : Int)).toNat Str.empty)
      first
        | rw [textStep_1 (by assumption) (by assumption)]
        | rw [textStep_2 (.inl (by assumption)) (by omega) (by assumption)]
        | rw [textStep_2 (.inr (by assumption)) (by omega) (by assumption)]
        | rw [textStep_3 (.inl (by assumption)) (.inl (by assumption))]
        | rw [textStep_3 (.inr (by assumption)) (.inl (by assumption))]
        | rw [textStep_3 (.inl (by assumption)) (.inr (by assumption))]
        | rw [textStep_3 (.inr (by assumption)) (.inr (by assumption))]
  · rintro m news s₁ ⟨_, tt, h1, rfl, h2, h3, rfl⟩ Z₁ F₁ N₁ o₁ t₁
    dsimp only at t₁ o₁ Z₁
    have hB := textP_len (x := x) hnm nms.length
    have hb1 : (Str.ofString "\\").length = 1 := rfl
    k_steps
    unfold Stop
    refine strip_c (x := textP x nms nms.length ++ Str.ofString "\\") ?_ ?_ (by dsimp only [Around.deeper, Around.in1]; omega) (Frag.In.keeps KX F₁.keep) (T.keeps F₁.keep) ?_
    · show 0 < (textP x nms nms.length ++ Str.ofString "\\").length; rw [cat_len]; omega
    · rw [cat_len]; omega
    intro t2 s2 K2
    have F2 := Fr.old F₁ K2.old
    have N2 := News.old N₁ K2.old
    clear F₁ N₁
    generalize hz : stripP (textP x nms nms.length ++ Str.ofString "\\") = shorn at *
    k_steps
    unfold Stop
    rename Fr _ _ _ _ => F3
    rename News _ _ _ _ => N3
    rename _ = Data.cell (some (Value.str shorn t2)) => dS
    rename Obj => oS
    refine compA F3 N3 ?_ (by with_unfolding_all rfl) (by decide) (by rfl) (by decide) (by intro _; rfl) (by with_unfolding_all rfl) (by rfl) (by rfl)
    k_steps
    unfold Stop
    refine compGen hsh (by dsimp only [Around.deeper, Around.in1]; omega) (Frag.In.keeps KX F3.keep) (T.keeps F3.keep) (fun _ _ e => e) rfl (Nat.le_refl _)
      (fun i m ys => ∃ us, StrsAre ys.toList us ∧ us = (((escs shorn.cps.toList 0 false).take i).filter (sliceOk shorn)).map (·.2) ∧ ys.size ≤ i ∧ (∀ x t, Value.str x t ∈ ys.toList → s.toks ≤ t)) ?_ ?_ ?_ ?_
    · exact ⟨_, .nil, rfl, Nat.le_refl _, fun _ _ h => nomatch h⟩
    · rintro i m ys hi ⟨_, _, _, hy, _⟩
      have := escs_len shorn.cps.toList 0 false
      have h2 : shorn.cps.toList.length = shorn.length := by simp [Str.length]
      omega
    · intro s' C D os' tk'
      rintro S hSG i v m ys k own s₁ hi ⟨us, hus, hue, hsz, htok⟩ ⟨T', tp, tu, p, u', hit, rfl, hT, hB⟩ S₁ F₁ N₁ a₁ b₁ o₁ t₁
      have hu2 := escs_two _ _ _ _ (List.mem_of_getElem? hit)
      have hcell := (N3 _ (.head _)).1
      have KXb := Frag.In.keeps KX F3.keep
      have Tb := T.keeps F3.keep
      dsimp only at hu2
      k_steps
      · rename Fr _ _ _ _ => FE
        rename News _ _ _ _ => NE
        rename (_ == u') = true => hok
        refine ⟨⟨_, ys, k, own, FE, NE, a₁, b₁, S₁, ?_, us ++ [u'], ?_, ?_, ?_, ?_⟩, o₁, by assumption⟩
        · have := escs_len shorn.cps.toList 0 false
          have h2 : shorn.cps.toList.length = shorn.length := by simp [Str.length]
          omega
        · rw [Array.toList_push]; exact StrsAre.append' hus (.cons _ _ .nil)
        · rw [filt_true hit hok, hue]
        · rw [Array.size_push]; omega
        · intro x t hx
          rw [Array.toList_push] at hx
          rcases List.mem_append.mp hx with hx | hx
          · exact htok x t hx
          · cases List.mem_singleton.mp hx
            refine Nat.le_trans ?_ hB
            have := K2.toks
            dsimp only at *
            omega
      · rename Fr _ _ _ _ => FE
        rename News _ _ _ _ => NE
        rename (_ == u') = false => hok
        refine ⟨⟨_, ys, k, own, FE, NE, a₁, b₁, S₁, us, hus, ?_, by omega, htok⟩, o₁, by assumption⟩
        rw [filt_false hit hok, hue]
    · rintro D m₂ ys k s₃ ⟨us, hus, hue, hsz, htok⟩ Z₃ O₃ hD hD0 os₃ tk₃ h₄ tk₄ ht₄ F₄ N₄ A₄
      rw [List.take_length] at hue
      try dsimp only at F₄ N₄ ⊢
      have hel := escs_len shorn.cps.toList 0 false
      have hel2 : shorn.cps.toList.length = shorn.length := by simp [Str.length]
      obtain ⟨vs', t9, hve⟩ := strs_last hus (show us.getLast? = _ by rw [hue]; exact hlast)
      k_steps
      unfold Stop
      refine slice_last F₄ N₄ ?hl hve ?_ ?z
      case hl => is_list
      case z => (show _ ≤ 16777216; omega)
      intro h5 F5 N5
      clear F₄ N₄
      k_steps
      unfold Stop
      rename Fr _ _ _ _ => F6
      rename News _ _ _ _ => N6
      refine' ne_dataH (a := .ref _) ?ra ?rb ?hc ?hd ?hu ?_
      case ra => ke_read
      case rb => ke_read
      case hc => ke_shaped
      case hd => ke_shaped
      case hu => (dsimp only [Around.deeper, Around.in1]; omega)
      ke_norm
      k_steps
      unfold Stop
      refine compE F6 N6 ?_ (by with_unfolding_all rfl) (by decide) (by rfl) (by decide) (by intro _; rfl)
      k_steps
      unfold Stop
      have hlD := N6.isList (items := ys) (a := D) (by news_mem)
      have hl2b := hl2.at fun o e => F6.keep l2 o e
      refine compList rfl hlD (fun _ _ e => e) (T.nolimit.keeps F6.keep) rfl (Nat.le_refl _)
        (fun i m zs => ∃ is : List Nat, IntsAre zs.toList (is.map fun (n : Nat) => (n : Int)) ∧ is = foundP sgs (us.take i) ∧ zs.size ≤ i) ?_ ?_ ?_ ?_
      · exact ⟨[], .nil, by simp [foundP], Nat.le_refl _⟩
      · rintro i m zs hi ⟨_, _, _, hy⟩
        omega
      · intro s' C D2 os' tk'
        rintro S hSG i v m zs k2 own s₁ hi ⟨is, his, hie, hzs⟩ hit S₁ F₁ N₁ a₁ b₁ o₁ t₁
        have hiy : ys.toList[i]? = some v := by rw [Array.getElem?_toList]; exact hit
        obtain ⟨uu, tv, rfl, hui⟩ : ∃ uu tv, v = .str uu tv ∧ us[i]? = some uu := strs_item hus hiy
        have htv := htok uu tv (List.mem_of_getElem? hiy)
        have hcell := (N6 _ (.tail _ (.tail _ (.tail _ (.tail _ (.head _)))))).1
        have KXb := Frag.In.keeps KX F6.keep
        have Tb := T.keeps F6.keep
        k_steps
        unfold Stop
        rename Fr _ _ _ _ => F7
        rename News _ _ _ _ => N7
        have hl2c := hl2b.at fun o e => F7.keep l2 o e
        refine contains_c hl2c hs2 (by dsimp only [Around.deeper, Around.in1]; omega) (Frag.In.keeps KXb F7.keep) (Tb.keeps F7.keep) ?_
        intro s8 K8
        have F8 := Fr.old F7 K8.old
        have N8 := News.old N7 K8.old
        clear F7 N7
        have hgens8 : s8.gens = s₁.gens := K8.gens
        have hos8 : s8.os = s₁.os := K8.os
        k_steps
        · unfold Stop
          rename (sgs.any _) = true => hin
          have hl2d := hl2b.at fun o e => F8.keep l2 o e
          have hmem : uu ∈ sgs := by
            obtain ⟨y, hy, e⟩ := List.any_eq_true.mp hin
            rw [← eq_of_beq e]; exact hy
          refine indexOf_c hl2d hs2 hmem (Nat.ne_of_gt (Nat.lt_of_lt_of_le ht0 htv)) (fun x t hx => ⟨(htv2 x t hx).1, Nat.ne_of_lt (Nat.lt_of_lt_of_le (htv2 x t hx).2 htv)⟩) (by dsimp only [Around.deeper, Around.in1]; omega) (Frag.In.keeps KXb F8.keep) (Tb.keeps F8.keep) ?_
          intro t9 s9 K9 htk9
          have F9 := Fr.old F8 K9.old
          have N9 := News.old N8 K9.old
          refine ⟨⟨_, zs, k2, own, F9, N9, a₁, b₁, by rw [K9.gens, hgens8]; exact S₁, by omega, is ++ [sgs.idxOf uu], ?_, ?_, ?_⟩, K9.os.trans (hos8.trans o₁), htk9⟩
          · rw [Array.toList_push, List.map_append]; exact IntsAre.append his (.cons _ _ .nil)
          · rw [found_true hui hin, hie]
          · rw [Array.size_push]; omega
        · rename (sgs.any _) = false => hin
          refine ⟨⟨_, zs, k2, own, F8, N8, a₁, b₁, by rw [hgens8]; exact S₁, is, his, ?_, by omega⟩, hos8.trans o₁, by assumption⟩
          rw [found_false hui hin, hie]
      · rintro D2 m zs k2 s' ⟨is, his, hie, hzs⟩ Z9 O9 hD9 hD90 os9 tk9 F9 N9 A9
        rw [← Array.length_toList, hus.length, List.take_length] at hie
        intro htk9
        refine hQ D2 zs k2 s' ⟨F9.keep, ?_, ?_, htk9⟩ ?_ ?_ ?_ ?_
        · rw [os9]
          show s₃.os = s.os
          rw [os₃]
          show s2.os = s.os
          rw [K2.os]
          exact o₁
        · intro hb
          rw [Z9]
          show AllBare s₃.gens
          rw [Z₃]
          refine AllBare.push (K2.bare ?_) rfl
          show AllBare s₁.gens
          rw [Z₁]; exact hb
        · cases e : s.heap.get? D2 with
          | none => rfl
          | some o => have := F6.keep _ _ e; rw [hD90] at this; cases this
        · exact hD9
        · have e : is = leftP x nms sgs := by rw [hie, hue]; unfold leftP unitsP; rw [hz]
          rw [← e]; exact his
        · omega
end
end PartB17
end Mine

namespace Mine
section PartB18
open PySem PySem.W PySem.Calls PyProof.Rows
structure Held (P : Prop) : Prop where
  go : P
theorem whileS {prog : Program} {w : World} {A : Around} {E : Value → Shared → Prop} {s : Shared} {test : Expr} {body orelse : List Stmt} {pos : Pos} {env : Env} {Q : Flow → Shared → Prop} (Inv : Nat → Shared → Prop)
    (turn : ∀ n s, Inv n s → wpAny (model prog w) A (isTrue test env (eval test env)) (fun b s₂ => if b = true then wpAny (model prog w) A (execs body env) (fun f s₃ => match f with
        | .next | .cont => Held (∃ m, m < n ∧ Inv m s₃)
        | .brk => Q .next s₃
        | .ret v => Q (.ret v) s₃) NoE s₂ else wpAny (model prog w) A (execs orelse env) (fun f s₃ => Q f s₃) NoE s₂) NoE s) (n : Nat) (h : Inv n s) :
    wpAny (model prog w) A (exec (.While test body orelse pos) env) Q E s := by
  refine wpAny_While (codeAny_whileLoop Inv (fun n s hI => ?_) n h)
  refine wpAny_mono (turn n s hI) (fun b s₂ h₂ => ?_) fun _ _ x => x.elim
  cases b with
  | false =>
    simp only [Bool.false_eq_true, if_false] at h₂ ⊢
    exact wpAny_mono h₂ (fun _ _ x => x) fun _ _ x => x.elim
  | true =>
    simp only [if_true] at h₂ ⊢
    refine wpAny_mono h₂ (fun f s₃ h₃ => ?_) fun _ _ x => x.elim
    cases f with
    | next => exact h₃.go
    | cont => exact h₃.go
    | brk => exact h₃
    | ret v => exact h₃

/-- Euclid's figures -/
inductive Euc : Int → Int → List Int → Int → Prop
  | stop (a : Int) : Euc a 0 [] a
  | step {a b g : Int} {fs : List Int} : b ≠ 0 → b.natAbs.log2 < 9000 → Euc b (Int.fmod a b) fs g → Euc a b (Int.fdiv a b :: fs) g
theorem Euc.zero {a b g : Int} {fs : List Int} (h : Euc a b fs g) (hb : b = 0) : fs = [] ∧ g = a := by
  cases h with
  | stop => exact ⟨rfl, rfl⟩
  | step h => exact absurd hb h
theorem Euc.more {a b g : Int} {fs : List Int} (h : Euc a b fs g) (hb : b ≠ 0) : b.natAbs.log2 < 9000 ∧ ∃ r, fs = Int.fdiv a b :: r ∧ Euc b (Int.fmod a b) r g := by
  cases h with
  | stop => exact absurd rfl hb
  | step _ h2 h3 => exact ⟨h2, _, rfl, h3⟩

local macro_rules | `(tactic| walk_at "eval Name") => `(tactic| (k_here; k_dflt (refine' ldLoc ?k1 ?k2 ?_; (case k1 => first | k_asm | assumption); (case k2 => first | assumption | exact rfl); k_whole)))
local macro_rules | `(tactic| walk_at "call ref") => `(tactic| refine stopI ?_)
local macro_rules | `(tactic| walk_at "exec While Compare") => `(tactic| refine stopI ?_)
local macro_rules | `(tactic| walk_at "enterF") => `(tactic| (
  (case ho => k_is); (case hcd => k_is); (case hr => (dsimp only [Around.deeper, Around.in1]; omega)); (case hb => exact rfl); (case hl => rfl); (case hc => rfl); (case h1 => exact rfl); (case h2 => exact rfl); (case h3 => exact rfl)))
local macro_rules | `(tactic| walk_at "call builtin:list.append") => `(tactic| (k_here; k_dflt (refine' appendA ?F ?N ?a ?z ?_; (case F => k_asm); (case N => k_asm); (case a => first | assumption | exact (fun _ _ _ h => nomatch h)); (case z => (show _ ≤ 16777216; omega))); intro h' n' F' N' a'))
theorem fillK18 (w : World) : PySem.Challenge.rw_ux0008_01 = PySem.Challenge.rw_ux0008_01 ∧ Mine.hd.heap_39 w.params = Mine.hd.heap_39 w.params := by
  k_fill
  exact ⟨rfl, rfl⟩
section
variable {prog : Program} {w : World} {d u : Nat} {fr : Option (List Env)} {gd : Option (List Code)} {s : Shared} {loose : List Str} {mean : ExcName → Option Value} {mg mb : Str → Option Value} {Q E : Value → Shared → Prop}
theorem euclid_c {a b : Int} {ta tb : Tok} {fs : List Int} {g : Int} (he : Euc a b fs g) (hfs : fs.length ≤ 100)
   (hroom : d + 2 < recursionLimit) (KX : (Mine.hd.heap_39 w.params).In s.heap) (T : Top Mine.hd.view_39 loose mean mg mb s.heap)
   (hQ : ∀ D ys k s', Same s s' → s.heap.get? D = none → s'.heap.get? D = some (lstO ys k) → IntsAre ys.toList (fs ++ [g]) → Q (.ref D) s') :
   wpAny (model prog w) (Ar d u fr gd) (call (.ref 108) [.int a ta, .int b tb]) Q E s := by
  refine' enterF (binds := [(Str.ofString "upper", .int a ta), (Str.ofString "lower", .int b tb)]) KX T ?ho ?hcd ?hr ?hb ?hl ?hc ?_ ?h1 ?h2 ?h3
  walk_at "enterF"
  intro L h₁ F hk
  try dsimp only
  have N0 : News s.heap L h₁ [] := News.nil
  k_steps
  unfold Stop
  rename Fr _ _ _ _ => F1
  rename News _ _ _ _ => N1
  rename_i D _ _ _
  refine whileS (fun n s₁ => ∃ m a' b' ta tb rest done vs k, Fr s.heap L s₁.heap m ∧ News s.heap L s₁.heap [(D, lstO vs k)] ∧ m (Str.ofString "upper") = some (.int a' ta) ∧ m (Str.ofString "lower") = some (.int b' tb) ∧ m (Str.ofString "figures") = some (.ref D) ∧
    Euc a' b' rest g ∧ fs = done ++ rest ∧ n = rest.length ∧ IntsAre vs.toList done ∧ s₁.os = s.os ∧ s₁.gens = s.gens) ?_ fs.length ?_
  · rintro n s₁ ⟨m, a', b', ta', tb', rest, done, vs, k, F₁, N₁, h1, h2, h3, hE, hf, hn, hi, hos, hgn⟩
    have hvl : vs.size = done.length := by rw [← Array.length_toList, hi.length]
    have hfl : fs.length = done.length + rest.length := by rw [hf, List.length_append]
    clear F1 N1
    k_steps
    · unfold Stop
      rename b' ≠ 0 => hb0
      obtain ⟨hp, r, rfl, hE'⟩ := hE.more hb0
      refine floordiv_c hb0 hp (by dsimp only [Around.deeper, Around.in1]; omega) (Frag.In.keeps KX F₁.keep) (T.keeps F₁.keep) ?_
      intro t2 s2 K2
      have F2 := Fr.old F₁ K2.old
      have N2 := News.old N₁ K2.old
      clear F₁ N₁
      have hos2 : s2.os = s₁.os := K2.os
      have hgn2 : s2.gens = s₁.gens := K2.gens
      k_steps
      unfold Stop
      rename Fr _ _ _ _ => F3
      rename News _ _ _ _ => N3
      refine mod_c hb0 (by dsimp only [Around.deeper, Around.in1]; omega) (Frag.In.keeps KX F3.keep) (T.keeps F3.keep) ?_
      intro t4 s4 K4
      have F4 := Fr.old F3 K4.old
      have N4 := News.old N3 K4.old
      clear F3 N3
      have hos4 : s4.os = s2.os := K4.os
      have hgn4 : s4.gens = s2.gens := K4.gens
      k_steps
      refine Held.mk ?_
      rename Fr _ _ _ _ => F5
      rename News _ _ _ _ => N5
      refine ⟨r.length, by rw [hn]; exact Nat.lt_succ_self _, _, b', Int.fmod a' b', _, _, r, done ++ [Int.fdiv a' b'], vs.push (.int (Int.fdiv a' b') t2), _, F5, fun p hp => N5 p (.tail _ hp), rfl, rfl, h3, hE', ?_, rfl, ?_, hos4.trans (hos2.trans hos), hgn4.trans (hgn2.trans hgn)⟩
      · rw [hf, List.append_assoc]; rfl
      · rw [Array.toList_push]; exact IntsAre.append hi (.cons _ _ .nil)
    · rename b' = 0 => hb0
      obtain ⟨rfl, rfl⟩ := hE.zero hb0
      rename Fr _ _ _ _ => F6
      rename News _ _ _ _ => N6
      rename IntsAre _ (done ++ _) => hI
      have N6h := N6 _ (.head _)
      refine hQ _ _ _ _ ⟨F6.keep, hos, hgn, by assumption⟩ N6h.2.2 N6h.1 ?_
      rw [hf, List.append_nil]
      exact hI
  · exact ⟨_, _, _, _, _, _, [], _, _, F1, N1, rfl, rfl, rfl, he, rfl, rfl, .nil, rfl, rfl⟩
end
end PartB18
end Mine

namespace Mine
section PartB19
open PySem PySem.W PySem.Calls PyProof.Rows
theorem rangeC2 {prog : Program} {w : World} {A : Around} {E : Value → Shared → Prop} {s : Shared} {h₀ : Heap} {L : Addr} {m : Str → Option Value} {news : Own} {a b : Int} {t u : Tok} {Q : Value → Shared → Prop} (F : Fr h₀ L s.heap m) (N : News h₀ L s.heap news)
    (h : ∀ h' r t u v tk, s.toks ≤ tk → IsRange h' r a b 1 t u v → Fr h₀ L h' m → News h₀ L h' news → Q (.ref r) { s with heap := h', toks := tk }) : wpAny (model prog w) A (call (.type "range") [.int a t, .int b u]) Q E s :=
  call_range_2 (h _ _ _ _ _ _ (Nat.le_add_right _ 1) (IsRange.new _ _ _ _ _ _ _) (F.push _) (fun p hp => (N.push F _) p (.tail _ hp)))
theorem powTen {prog : Program} {w : World} {A : Around} {E : Value → Shared → Prop} {s : Shared} {t u : Tok} {Q : Value → Shared → Prop} (h : ∀ tk, Q (.int 1000000000 tk) { s with toks := s.toks + 1 }) : wpAny (model prog w) A (binaryOp .Pow (.int 10 t) (.int 9 u)) Q E s :=
  pow_int_small (by decide) (by decide) (by decide) (by rw [show (10 : Int) ^ (9 : Int).toNat = 1000000000 from by decide]; exact h _)
theorem fmod_nn (a : Int) {b : Int} (h : 0 < b) : 0 ≤ Int.fmod a b := by rw [Int.fmod_eq_emod_of_nonneg _ (Int.le_of_lt h)]; exact Int.emod_nonneg _ (Int.ne_of_gt h)
theorem fmod_lt (a : Int) {b : Int} (h : 0 < b) : Int.fmod a b < b := by rw [Int.fmod_eq_emod_of_nonneg _ (Int.le_of_lt h)]; exact Int.emod_lt_of_pos _ h
def sizeP (ds : List Int) : Int := 2 + Int.fmod (ds.getD (0 : Int).toNat 0) 4
def firstP (ds : List Int) : Int := Int.fmod (ds.getD (1 : Int).toNat 0 + 1000000000) 2000000001 - 1000000000
def midP (ds : List Int) (k : Int) : Int := 1 + Int.fmod (ds.getD k.toNat 0) 1000000000
def lastP (ds : List Int) : Int := 2 + Int.fmod (ds.getD (sizeP ds).toNat 0) 1000000000
def midsP (ds : List Int) : Nat → List Int
  | 0 => [firstP ds]
  | i + 1 => midsP ds i ++ [midP ds (2 + (i : Int))]
def numbersP (ds : List Int) : List Int := midsP ds (sizeP ds - 2).toNat ++ [lastP ds]
theorem midsP_len (ds : List Int) : ∀ i, (midsP ds i).length = i + 1
  | 0 => rfl
  | i + 1 => by unfold midsP; rw [List.length_append, midsP_len ds i]; rfl
local macro_rules | `(tactic| walk_at "eval Name") => `(tactic| (k_here; k_dflt (refine' ldLoc ?k1 ?k2 ?_; (case k1 => first | k_asm | assumption); (case k2 => first | assumption | exact rfl); k_whole)))
local macro_rules | `(tactic| walk_at "binaryOp Pow int int") => `(tactic| ((k_dflt (refine powTen ?_)); intro _))
local macro_rules | `(tactic| walk_at "call ref") => `(tactic| refine stopI ?_)
local macro_rules | `(tactic| walk_at "pyIter ref") => `(tactic| refine stopI ?_)
local macro_rules | `(tactic| walk_at "exec For Name Call cons nil") => `(tactic| k_dflt (refine forS ?_))
local macro_rules | `(tactic| walk_at "call type:range") => `(tactic| (k_here; k_dflt (refine' rangeC2 ?F ?N ?_; (case F => k_asm); (case N => k_asm); k_whole); intro h' r' t' u' v' tk' l' R' F' N'))
local macro_rules | `(tactic| walk_at "subscriptTail") => `(tactic| ((with_reducible show wpAny _ _ (subscriptTail _ _ (Value.ref _) (Value.int _ _)) _ _ _); refine' item_list_intsR ?hl ?hi ?h0 ?h1 ?h2 ?_; (case hl => is_list); (case hi => assumption); (case h0 => omega); (case h1 => omega); (case h2 => omega); intro _))
local macro_rules | `(tactic| walk_at "enterF") => `(tactic| (
  (case ho => k_is); (case hcd => k_is); (case hr => (dsimp only [Around.deeper, Around.in1]; omega)); (case hb => exact rfl); (case hl => rfl); (case hc => rfl); (case h1 => exact rfl); (case h2 => exact rfl); (case h3 => exact rfl)))
local macro_rules | `(tactic| walk_at "call builtin:list.append") => `(tactic| (k_here; k_dflt (refine' appendA ?F ?N ?a ?z ?_; (case F => k_asm); (case N => k_asm); (case a => first | assumption | exact (fun _ _ _ h => nomatch h)); (case z => (show _ ≤ 16777216; omega))); intro h' n' F' N' a'))
theorem fillK19 (w : World) : PySem.Challenge.rw_ux0008_01 = PySem.Challenge.rw_ux0008_01 ∧ Mine.hd.heap_39 w.params = Mine.hd.heap_39 w.params := by
  k_fill
  exact ⟨rfl, rfl⟩
section
variable {prog : Program} {w : World} {d u : Nat} {fr : Option (List Env)} {gd : Option (List Code)} {s : Shared} {loose : List Str} {mean : ExcName → Option Value} {mg mb : Str → Option Value} {Q E : Value → Shared → Prop}
theorem numbers_c {l : Addr} {vs : List Value} {ds : List Int} (hl : s.heap.IsList l vs.toArray) (hi : IntsAre vs ds) (hds : ds.length = 11)
   (hroom : d + 2 < recursionLimit) (KX : (Mine.hd.heap_39 w.params).In s.heap) (T : Top Mine.hd.view_39 loose mean mg mb s.heap)
   (hQ : ∀ D ys k s', Same s s' → s.heap.get? D = none → s'.heap.get? D = some (lstO ys k) → IntsAre ys.toList (numbersP ds) → Q (.ref D) s') :
   wpAny (model prog w) (Ar d u fr gd) (call (.ref 91) [.ref l]) Q E s := by
  refine' enterF (binds := [(Str.ofString "draws", .ref l)]) KX T ?ho ?hcd ?hr ?hb ?hl ?hc ?_ ?h1 ?h2 ?h3
  walk_at "enterF"
  intro L h₁ F hk
  try dsimp only
  have N0 : News s.heap L h₁ [] := News.nil
  k_steps
  unfold Stop
  rename IsRange _ _ _ _ _ _ _ _ => hR
  rename Fr _ _ _ _ => F1
  rename News _ _ _ _ => N1
  have h4 := fmod_nn (ds.getD (0 : Int).toNat 0) (show (0 : Int) < 4 by decide)
  have h5 := fmod_lt (ds.getD (0 : Int).toNat 0) (show (0 : Int) < 4 by decide)
  have hs1 : sizeP ds = 2 + Int.fmod (ds.getD (0 : Int).toNat 0) 4 := rfl
  have hN := N1 _ (.head _)
  refine forRange (base := s.heap) (n := (sizeP ds - 2).toNat) rfl hR ?_ ?_ T.nolimit (fun i m news => ∃ D vs k t, m (Str.ofString "numbers") = some (.ref D) ∧ m (Str.ofString "size") = some (.int (2 + Int.fmod (ds.getD (0 : Int).toNat 0) 4) t) ∧ m (Str.ofString "draws") = some (.ref l) ∧
    news = [(D, lstO vs k)] ∧ IntsAre vs.toList (midsP ds i)) F1 N1 ?_ ?_ ?_
  · exact small_one (by decide) (by decide) (by omega) (by omega)
  · rw [rangeSize_one]; split <;> omega
  · exact ⟨_, _, _, _, rfl, rfl, rfl, rfl, .cons _ _ .nil⟩
  · rintro S hSG i v m news own s₁ hi2 ⟨D, vs', k, t, h1, h2, h3, rfl, hI⟩ ⟨tv, rfl⟩ S₁ F₁ N₁ a₁ o₁ t₁
    have hvl : vs'.size = i + 1 := by rw [← Array.length_toList, hI.length, midsP_len]
    clear F1 N1 hN
    k_steps
    rename Fr _ _ _ _ => FE
    rename News _ _ _ _ => NE
    rename Apart [(D, _)] _ => AE
    refine ⟨⟨_, _, own, FE, NE, by assumption, S₁, D, _, _, _, h1, h2, h3, rfl, ?_⟩, o₁, by assumption⟩
    rw [Array.toList_push]
    exact IntsAre.append hI (.cons _ _ .nil)
  · rintro m news s₁ ⟨D, vs', k, t, h1, h2, h3, rfl, hI⟩ Z₁ F₁ N₁ o₁ t₁
    have hvl : vs'.size = (sizeP ds - 2).toNat + 1 := by rw [← Array.length_toList, hI.length, midsP_len]
    clear F1 N1 hN
    have ap0 : Apart [(D, lstO vs' k)] [] := fun _ _ _ h => nomatch h
    k_steps
    rename Fr _ _ _ _ => FE
    rename News _ _ _ _ => NE
    have hE := NE _ (.head _)
    refine hQ D _ _ _ ⟨FE.keep, o₁, Z₁, by assumption⟩ hE.2.2 hE.1 ?_
    rw [Array.toList_push]
    exact IntsAre.append hI (.cons _ _ .nil)
end
end PartB19
end Mine

namespace Mine
section PartB20
open PySem PySem.W PySem.Calls PyProof.Rows
section
variable {prog : Program} {w : World} {A : Around} {E : Value → Shared → Prop} {s : Shared}
theorem compLoopB {e : Expr} {depth : Nat} {R : Result → Shared → Prop} {target iter : Expr} {ifs : List Expr} {it acc : Value} {env : Env} {n : Nat} {BK : Sem Fin} (Inv : Nat → Shared → Prop)
    (hT : compTurn e depth it acc env = (do
      standAt iter.pos
      match ← pyNext it with
      | none => pure (.done .next)
      | some v =>
        letOwnedTupleGo target it v
        assign target env v
        let ok ← testsOf ifs env
        if ok = true then BK else again (.compLoop e depth it acc env)))
    (hq : (Code.compLoop e depth it acc env).quiet = true) (hfr : ∀ (Q : Fin → Shared → Prop) (E : Value → Shared → Prop) (s : Shared), wpAny (model prog w) A ((compTurn e depth it acc env).onRaise (fun x => do noteFrame x env; theTreesLotGoes x)) Q E s → wpAny (model prog w) (A.under (Code.compLoop e depth it acc env)) ((model prog w).den (Code.compLoop e depth it acc env)) Q E s)
    (turn : ∀ i s, i < n → Inv i s → wpAny (model prog w) A (pyNext it) (fun r s₁ => ∃ v, r = some v ∧
      wpAny (model prog w) A (letOwnedTupleGo target it v) (fun _ s₂ => wpAny (model prog w) A (assign target env v) (fun _ s₃ => wpAny (model prog w) A (testsOf ifs env) (fun ok s₄ =>
        if ok = true then wpAny (model prog w) A BK (fun f s₆ => f = .again (.compLoop e depth it acc env) ∧ Inv (i + 1) s₆) NoE s₄ else Inv (i + 1) s₄) NoE s₃) NoE s₂) NoE s₁) NoE s)
    (fin : ∀ s, Inv n s → wpAny (model prog w) A (pyNext it) (fun r s₁ => r = none ∧ R (.ok .next) s₁) NoE s)
    (h0 : Inv 0 s) : codeAny (model prog w) A (.compLoop e depth it acc env) R s := by
  refine codeAny_loop hq (fun k s' => ∃ i, i ≤ n ∧ Inv i s' ∧ k = n - i) ?_ n ⟨0, Nat.zero_le _, h0, rfl⟩
  rintro k s' ⟨i, hi, hI, rfl⟩
  refine hfr _ _ _ ?_
  refine wpAny_noted (wpAny_mono (E := NoE) (?_ : wpAny _ A (compTurn e depth it acc env) (fun fin s' => match fin with | .done f => R (.ok f) s' | .again c' => c' = Code.compLoop e depth it acc env ∧ ∃ m, m < n - i ∧ ∃ i, i ≤ n ∧ Inv i s' ∧ m = n - i) NoE s') (fun _ _ x => x) fun _ _ x => x.elim)
  rw [hT]
  refine wpAny_bind (wpAny_standAt (wpAny_bind ?_))
  by_cases hlt : i < n
  · refine wpAny_mono (turn i s' hlt hI) (fun r s₁ h₁ => ?_) fun _ _ x => x
    obtain ⟨v, rfl, h₁⟩ := h₁
    refine wpAny_bind (wpAny_mono h₁ (fun _ s₂ h₂ => wpAny_bind (wpAny_mono h₂ (fun _ s₃ h₃ => wpAny_bind (wpAny_mono h₃ (fun ok s₄ h₄ => ?_) fun _ _ x => x)) fun _ _ x => x)) fun _ _ x => x)
    cases ok with
    | false =>
      simp only [Bool.false_eq_true, if_false] at h₄ ⊢
      exact wpAny_pure ⟨rfl, n - (i + 1), by omega, i + 1, hlt, h₄, rfl⟩
    | true =>
      simp only [if_true] at h₄ ⊢
      refine wpAny_mono h₄ (fun f s₆ h₆ => ?_) fun _ _ x => x
      obtain ⟨rfl, h₆⟩ := h₆
      exact ⟨rfl, n - (i + 1), by omega, i + 1, hlt, h₆, rfl⟩
  · obtain rfl : i = n := by omega
    refine wpAny_mono (fin s' hI) (fun r s₁ h₁ => ?_) fun _ _ x => x
    obtain ⟨rfl, h₁⟩ := h₁
    exact wpAny_pure h₁

theorem codeAny_compStart1 {R : Result → Shared → Prop} {elt target iter ifs g0 rest scope pos it acc env}
    (h0 : codeAny (model prog w) A (.compLoop (.ListComp elt (g0 :: ⟨target, iter, ifs, 0⟩ :: rest) scope pos) 1 it acc env) R s)
    (h : wpAny (model prog w) A (pyIter it) (fun it' s' => codeAny (model prog w) A (.compLoop (.ListComp elt (g0 :: ⟨target, iter, ifs, 0⟩ :: rest) scope pos) 1 it' acc env) R s')
      (notedBy (model prog w) A env fun x s' => R (.error x) s') s) :
    codeAny (model prog w) A (.compStart (.ListComp elt (g0 :: ⟨target, iter, ifs, 0⟩ :: rest) scope pos) 1 it acc env) R s := by
  refine codeAny_of_tree ?_
  show wpAny _ _ ((compStart (.ListComp elt (g0 :: ⟨target, iter, ifs, 0⟩ :: rest) scope pos) 1 it acc env).onRaise (fun x => do noteFrame x env; standAt theWindowsPlace)) _ _ s
  refine wpAny_notedAt ?_
  unfold compStart
  show wpAny _ _ (ask >>= _) _ _ s
  refine wpAny_bind (wpAny_askSetting (wpAny_ite ?_))
  split
  · first
      | exact wpAny_bind (wpAny_pure (wpAny_pure (And.intro rfl h0)))
      | exact wpAny_pure (And.intro rfl h0)
  · first
      | exact wpAny_bind (wpAny_rule (wpAny_bind (wpAny_standAt (wpAny_bind (wpAny_mono h (fun it' s' h' => wpAny_pure (And.intro rfl h')) fun _ _ x => x)))))
      | (refine wpAny_bind (wpAny_rule ?_); show wpAny _ _ (standAt iter.pos >>= _) _ _ s; exact wpAny_bind (wpAny_standAt (wpAny_bind (wpAny_mono h (fun it' s' h' => wpAny_pure (And.intro rfl h')) fun _ _ x => x))))

theorem turn2 {elt iter0 iter1 : Expr} {x0 x1 : Str} {p0 p1 : Pos} {scope : Scope} {pos : Pos} {it acc : Value} {env : Env} :
    compTurn (.ListComp elt [⟨.Name x0 p0, iter0, [], 0⟩, ⟨.Name x1 p1, iter1, [], 0⟩] scope pos) 0 it acc env = (do
      standAt iter0.pos
      match ← pyNext it with
      | none => pure (.done .next)
      | some v =>
        letOwnedTupleGo (.Name x0 p0) it v
        assign (.Name x0 p0) env v
        let ok ← testsOf [] env
        if ok = true then (do
          let x ← eval iter1 env
          standAt iter1.pos
          let x ← foldedSetIterable iter1 env x
          let it1 ← holding [x] (pyIter x)
          let _ ← runOwn (.compStart (.ListComp elt [⟨.Name x0 p0, iter0, [], 0⟩, ⟨.Name x1 p1, iter1, [], 0⟩] scope pos) 1 it1 acc env) env
          again (.compLoop (.ListComp elt [⟨.Name x0 p0, iter0, [], 0⟩, ⟨.Name x1 p1, iter1, [], 0⟩] scope pos) 0 it acc env))
        else again (.compLoop (.ListComp elt [⟨.Name x0 p0, iter0, [], 0⟩, ⟨.Name x1 p1, iter1, [], 0⟩] scope pos) 0 it acc env)) := by rfl
end
end PartB20
end Mine

namespace Mine
section PartB21
open PySem PySem.W PySem.Calls PyProof.Rows
section
variable {prog : Program} {w : World} {d u : Nat} {fr : Option (List Env)} {gd : Option (List Code)} {E : Value → Shared → Prop} {s : Shared}

theorem strs_item' : ∀ {vs : List Value} {us : List Str} {i : Nat} {v : Value}, StrsAre vs us → vs[i]? = some v → ∃ u t, v = .str u t ∧ us[i]? = some u
  | _, _, _, _, .nil, e => nomatch e
  | _, _, 0, _, .cons z t h, e => by
    simp at e
    exact ⟨z, t, e.symm, rfl⟩
  | _, _, i + 1, _, .cons z t h, e => by
    simp only [List.getElem?_cons_succ] at e ⊢
    exact strs_item' h e
/-- the strings of a two-clause block -/
def pairsP (xs : List Str) (cs : List Nat) : List Str := xs.flatMap fun r => cs.map fun c => r ++ (⟨#[c]⟩ : Str)

theorem pairsP_len (cs : List Nat) : ∀ l : List Str, (pairsP l cs).length = l.length * cs.length
  | [] => by simp [pairsP]
  | r :: l => by
    have ih := pairsP_len cs l
    unfold pairsP at ih ⊢
    rw [List.flatMap_cons, List.length_append, ih, List.length_map, List.length_cons, Nat.succ_mul, Nat.add_comm]
theorem pairsP_succ {xs : List Str} {cs : List Nat} {i : Nat} {r : Str} (h : xs[i]? = some r) : pairsP (xs.take (i + 1)) cs = pairsP (xs.take i) cs ++ cs.map fun c => r ++ (⟨#[c]⟩ : Str) := by
  unfold pairsP
  rw [List.take_add_one, h, List.flatMap_append]
  simp
abbrev Step2 (prog : Program) (w : World) (A : Around) (base : Heap) (D : Addr) (env : Env) (x0 x1 : Str) (p1 : Pos) (elt : Expr) (os : OsState) (tk : Nat) : Prop :=
  ∀ (S : Nat → Own → Array GenState → Prop) (j : Nat) (r : Str) (tr : Tok) (c : Nat) (tc : Tok) (m : Str → Option Value) (ys : Array Value) (k : Nat) (ext own : Own) (s₁ : Shared), r.length ≤ 100 → m x0 = some (.str r tr) → S (j + 1) own s₁.gens →
    Fr base env.locals s₁.heap m → News base env.locals s₁.heap ([(D, lstO ys k)] ++ (ext ++ own)) → Apart [(D, lstO ys k)] (ext ++ own) → Apart ext own → s₁.os = os → tk ≤ s₁.toks →
    wpAny (model prog w) A (assign (.Name x1 p1) env (.str ⟨#[c]⟩ tc)) (fun _ s₂ => wpAny (model prog w) A (eval elt env) (fun v s₄ => tk ≤ s₄.toks →
      CTurn base env.locals D S (fun m ys' => ys' = ys ∧ m x0 = some (.str r tr) ∧ ∃ t, v = .str (r ++ (⟨#[c]⟩ : Str)) t) ext os tk (j + 1) s₄) NoE s₂) NoE s₁

theorem comp2I {R : Result → Shared → Prop} {elt iter0 : Expr} {x0 x1 y : Str} {kind : Nat} {cpos : Pos} {p0 p1 : Pos} {scope : Scope} {pos : Pos} {it : Value} {D : Addr} {env : Env} {base hb : Heap} {tk0 : Nat} {S : Nat → Own → Array GenState → Prop} {Z : Array GenState → Prop}
    {items : Array Value} {xs : List Str} {own₀ : Own} {m₀ : Str → Option Value} {k₀ : Nat}
    (hxs : StrsAre items.toList xs) (hlen : ∀ r ∈ xs, r.length ≤ 100) (hmany : xs.length * y.cps.size ≤ 1000) (hascii : y.cps.all (· < 128) = true)
    (I : ItOk prog w (Ar d u fr gd) (.Name x0 p0) it hb tk0 items.size (fun i v _ => items[i]? = some v) S Z) (htk0 : tk0 ≤ s.toks) (hbase : base.NoLimit) (hob : Old hb base)
    (F : Fr base env.locals s.heap m₀) (N : News base env.locals s.heap ([(D, lstO #[] k₀)] ++ own₀)) (ap : Apart [(D, lstO #[] k₀)] own₀) (hS : S 0 own₀ s.gens)
    (hx0 : env.kindOf x0 = some .local) (hp : (env.scope.kind == .class || (env.scope.kind == .module && env.locals != env.globals)) = false) (hne : x0 ≠ x1)
    (step : Step2 prog w (Ar d u fr gd) base D env x0 x1 p1 elt s.os s.toks)
    (hq0 : (Code.compLoop (.ListComp elt [⟨.Name x0 p0, iter0, [], 0⟩, ⟨.Name x1 p1, .Constant (.str y) kind cpos, [], 0⟩] scope pos) 0 it (.ref D) env).quiet = true)
    (hcon : ∀ (Q : Value → Shared → Prop) (s' : Shared), (∀ t k, s'.toks ≤ k → Q (.str y t) { s' with toks := k }) → wpAny (model prog w) (Ar d u fr gd) (eval (.Constant (.str y) kind cpos) env) Q NoE s')
    (done : ∀ m ys k (s₁ : Shared), StrsAre ys.toList (pairsP xs y.cps.toList) → Z s₁.gens → Fr base env.locals s₁.heap m → News base env.locals s₁.heap [(D, lstO ys k)] → s₁.os = s.os → s.toks ≤ s₁.toks → R (.ok .next) s₁) :
    codeAny (model prog w) (Ar d u fr gd) (.compLoop (.ListComp elt [⟨.Name x0 p0, iter0, [], 0⟩, ⟨.Name x1 p1, .Constant (.str y) kind cpos, [], 0⟩] scope pos) 0 it (.ref D) env) R s := by
  have hxl : items.size = xs.length := by rw [← Array.length_toList, hxs.length]
  have hcl : y.cps.toList.length = y.cps.size := Array.length_toList
  have inv0 : CTurn base env.locals D S (fun m ys => StrsAre ys.toList (pairsP (xs.take 0) y.cps.toList)) [] s.os s.toks 0 s :=
    ⟨⟨m₀, #[], k₀, own₀, F, N, ap, fun _ h => (nomatch h), hS, .nil⟩, rfl, Nat.le_refl _⟩
  refine compLoopB (n := items.size) (fun i s₁ => CTurn base env.locals D S (fun m ys => StrsAre ys.toList (pairsP (xs.take i) y.cps.toList)) [] s.os s.toks i s₁) turn2 hq0 (fun _ _ _ h => h) ?_ ?_ inv0
  · rintro i s₁ hi ⟨⟨m, ys, k, own, F₁, N₁, a₁, _, S₁, J₁⟩, hos, htk⟩
    have N₁' : News base env.locals s₁.heap ([(D, lstO ys k)] ++ own) := N₁
    have a₁' : Apart [(D, lstO ys k)] own := a₁
    refine I.next i own s₁ _ hi (Nat.le_trans htk0 htk) S₁ (news_holds (news_r N₁')) (fun b o e => F₁.keep b o (hob b o e)) (hbase.keeps F₁.keep) ?_
    intro v own' h' tk G' htk' S' H' M' P'
    have F' := M'.fr F₁ (news_r N₁')
    have N' := news_app (M'.news (news_l N₁') a₁') (M'.own F₁ (news_r N₁') H')
    have A' := M'.apart (news_l N₁') a₁'
    have hiy : items.toList[i]? = some v := by rw [Array.getElem?_toList]; exact P'
    obtain ⟨r, tr, rfl, hr⟩ := strs_item' hxs hiy
    have hrl := hlen r (List.mem_of_getElem? hr)
    refine wpAny_assign_Name (wpAny_storeName_local hx0 F'.ns (fun h2 hn2 hs2 => ?_) hp)
    have F2 := F'.set hn2 hs2
    have N2 := N'.set hs2
    refine wpAny_tests_nil ?_
    simp only [if_true]
    refine wpAny_bind (hcon _ _ fun ty kk hkk => wpAny_bind (wpAny_standAt (wpAny_bind (wpAny_pure (wpAny_bind (wpAny_holding (wpAny_pyIter_ascii hascii ?_)))))))
    dsimp only at hkk ⊢
    refine wpAny_bind (wpAny_runOwn ?_)
    show codeAny _ (Ar d u fr gd) _ _ _
    have hI1 : base.get? h2.objs.size = none := by
      cases e : base.get? h2.objs.size with
      | none => rfl
      | some o => exact absurd (Heap.lt_size (F2.keep _ _ e)) (Nat.lt_irrefl _)
    let oi : Obj := { cls := .type "str_ascii_iterator", data := .fields #[.str y ty, .int 0 0] }
    have hoi : (h2.push oi).get? h2.objs.size = some oi := Heap.get?_push_size _ rfl
    have hst0 : (h2.push oi).IsStrIter h2.objs.size "str_ascii_iterator" y ty 0 := ⟨_, hoi, rfl, rfl⟩
    have F3 : Fr base env.locals (h2.push oi) (fun z => if z = x0 then some (.str r tr) else m z) := F2.push oi
    have N3 : News base env.locals (h2.push oi) ([(D, lstO ys k)] ++ (own' ++ [(h2.objs.size, oi)])) := by
      intro p hp
      have NN := N2.push F2 oi
      rcases List.mem_append.mp hp with hp | hp
      · exact NN p (.tail _ (List.mem_append_left _ hp))
      · rcases List.mem_append.mp hp with hp | hp
        · exact NN p (.tail _ (List.mem_append_right _ hp))
        · rw [List.mem_singleton.mp hp]; exact NN _ (.head _)
    have hlt : ∀ p ∈ [(D, lstO ys k)] ++ own', p.1 ≠ h2.objs.size := fun p hp => Nat.ne_of_lt (Heap.lt_size (N2 p hp).1)
    have ap3 : Apart [(D, lstO ys k)] (own' ++ [(h2.objs.size, oi)]) := by
      intro p hp q hq
      rcases List.mem_append.mp hq with hq | hq
      · exact A' p hp q hq
      · rw [List.mem_singleton.mp hq]; exact hlt p (List.mem_append_left _ hp)
    have ap4 : Apart own' [(h2.objs.size, oi)] := by
      intro p hp q hq
      rw [List.mem_singleton.mp hq]; exact hlt p (List.mem_append_right _ hp)
    have W := Walks.strAscii (prog := prog) (w := w) (A := Ar d u fr gd) rfl h2.objs.size y ty
    have I1 : ItOk prog w (Ar d u fr gd) (.Name x1 p1) (.ref h2.objs.size) base 0 y.cps.size (fun i v _ => SignAt y i v) (SOf G' [h2.objs.size] base fun i h => h.IsStrIter h2.objs.size "str_ascii_iterator" y ty i) (fun G => G = G') :=
      ItOk.ofTurns (hb := base) (ads := [h2.objs.size]) G' (KTurns.ofWalks (target := .Name x1 p1) W fun _ _ _ _ _ _ h => goName h) (fun b hb => hb) (fun b hb => .inl hb) (fun b hb => by rw [List.mem_singleton.mp hb]; exact hI1)
        (fun i h st b hb => by rw [List.mem_singleton.mp hb]; obtain ⟨o, ho, _⟩ := st; exact ⟨o, ho⟩)
    have hpl := pairsP_len y.cps.toList (xs.take i)
    have hix : i < xs.length := by omega
    have hti : (xs.take i).length = i := by rw [List.length_take]; omega
    have hbound : i * y.cps.size + y.cps.size ≤ 1000 := by
      have := Nat.mul_le_mul_right y.cps.size (show i + 1 ≤ xs.length from hix)
      rw [Nat.succ_mul] at this; omega
    rw [hti, hcl] at hpl
    have loop : ∀ s₅ : Shared, s₅ = { s₁ with heap := h2.push oi, gens := G', toks := kk } → codeAny (model prog w) (Ar d u fr gd) (.compLoop (.ListComp elt [⟨.Name x0 p0, iter0, [], 0⟩, ⟨.Name x1 p1, .Constant (.str y) kind cpos, [], 0⟩] scope pos) 1 (.ref h2.objs.size) (.ref D) env)
        (fun rr s' => match rr with | .ok f => wpAny (model prog w) (Ar d u fr gd) (again (.compLoop (.ListComp elt [⟨.Name x0 p0, iter0, [], 0⟩, ⟨.Name x1 p1, .Constant (.str y) kind cpos, [], 0⟩] scope pos) 0 it (.ref D) env)) (fun f s₆ => f = .again (.compLoop (.ListComp elt [⟨.Name x0 p0, iter0, [], 0⟩, ⟨.Name x1 p1, .Constant (.str y) kind cpos, [], 0⟩] scope pos) 0 it (.ref D) env) ∧ CTurn base env.locals D S (fun m ys => StrsAre ys.toList (pairsP (xs.take (i + 1)) y.cps.toList)) [] s.os s.toks (i + 1) s₆) NoE s' | .error e => cameBackBy (model prog w) (Ar d u fr gd) env NoE e s') s₅ := by
      rintro s₅ rfl
      refine compI (e := .ListComp elt [⟨.Name x0 p0, iter0, [], 0⟩, ⟨.Name x1 p1, .Constant (.str y) kind cpos, [], 0⟩] scope pos) (depth := 1) (elt := elt) (target := .Name x1 p1) (iter := .Constant (.str y) kind cpos) (ifs := []) (ext := own') (by rfl) (by rfl) (fun _ _ _ h => h) I1 (Nat.zero_le _) hbase (fun _ _ e => e)
        (fun j m ys' => m x0 = some (.str r tr) ∧ StrsAre ys'.toList (pairsP (xs.take i) y.cps.toList ++ (y.cps.toList.take j).map fun c => r ++ (⟨#[c]⟩ : Str))) F3 N3 ap3 ap4 ⟨rfl, rfl, fun h O H => ⟨_, holds_one.mp H, rfl, rfl⟩⟩ ⟨if_pos rfl, by simpa using J₁⟩ ?_ ?_ ?_
      · rintro j m' ys' hj ⟨_, hy⟩
        have := hy.length
        rw [Array.length_toList, List.length_append, List.length_map, List.length_take, hpl, hcl] at this
        omega
      · rintro j v m' ys' k' own2 s₆ hj ⟨hm0, hy⟩ ⟨c, tc, hc, rfl⟩ S₆ F₆ N₆ a₆ b₆ o₆ t₆
        have hyl := hy.length
        rw [Array.length_toList, List.length_append, List.length_map, List.length_take, hpl, hcl] at hyl
        refine wpAny_mono (step _ j r tr c tc m' ys' k' own' own2 s₆ hrl hm0 S₆ F₆ N₆ a₆ b₆ (o₆.trans hos) (Nat.le_trans (Nat.le_trans htk (Nat.le_trans htk' (Nat.le_of_succ_le hkk))) t₆)) (fun _ s₇ h₇ => wpAny_tests_nil ?_) fun _ _ x => x
        simp only [if_true]
        refine wpAny_mono h₇ (fun v s₈ h₈ t₈ => ?_) fun _ _ x => x
        obtain ⟨⟨m8, ys8, k8, own8, F8, N8, a8, b8, S8, rfl, hm8, t8, rfl⟩, o8, tt8⟩ := h₈ (Nat.le_trans (Nat.le_trans htk (Nat.le_trans htk' (Nat.le_of_succ_le hkk))) t₈)
        refine ⟨⟨m8, _, k8, own8, F8, N8, a8, b8, S8, by omega, hm8, ?_⟩, o8.trans hos.symm, t₈⟩
        rw [Array.toList_push, List.take_add_one, Array.getElem?_toList, hc, List.map_append, ← List.append_assoc]
        exact StrsAre.append' hy (.cons _ _ .nil)
      · rintro m' ys' k' s₆ ⟨hm0, hy⟩ Z₆ F₆ N₆ a₆ o₆ t₆
        refine wpAny_pure ⟨rfl, ⟨m', ys', k', own', F₆, N₆, a₆, fun _ h => (nomatch h), by rw [Z₆]; exact S', ?_⟩, o₆.trans hos, Nat.le_trans (Nat.le_trans htk (Nat.le_trans htk' (Nat.le_of_succ_le hkk))) t₆⟩
        rw [pairsP_succ hr]
        rw [show y.cps.toList.take y.cps.size = y.cps.toList from by rw [← hcl, List.take_length]] at hy
        exact hy
    exact codeAny_compStart1 (loop _ rfl) (W.self 0 _ _ _ hst0 (loop _ rfl))
  · rintro s₁ ⟨⟨m, ys, k, own, F₁, N₁, a₁, _, S₁, J₁⟩, hos, htk⟩
    have N₁' : News base env.locals s₁.heap ([(D, lstO ys k)] ++ own) := N₁
    have a₁' : Apart [(D, lstO ys k)] own := a₁
    refine I.fin own s₁ _ (Nat.le_trans htk0 htk) S₁ (news_holds (news_r N₁')) (fun b o e => F₁.keep b o (hob b o e)) (hbase.keeps F₁.keep) ?_
    intro h' tk G' htk' Z' M'
    rw [hxl, List.take_length] at J₁
    exact done m ys k _ J₁ Z' (M'.fr F₁ (news_r N₁')) (M'.news (news_l N₁') a₁') hos (Nat.le_trans htk htk')
end
end PartB21
end Mine

namespace Mine
section PartB22
open PySem PySem.W PySem.Calls PyProof.Rows
section
variable {prog : Program} {w : World} {d u : Nat} {fr : Option (List Env)} {gd : Option (List Code)} {E : Value → Shared → Prop} {s : Shared}
theorem comp2A {elt iter0 : Expr} {x0 x1 y yv : Str} {kind : Nat} {cpos py spos : Pos} {p0 p1 : Pos} {scope : Scope} {pos : Pos} {cl : List (Str × Addr)} {env : Env} {base : Heap} {m : Str → Option Value} {news : Own} {l : Addr} {items : Array Value} {xs : List Str} {Q : Flow → Shared → Prop}
    (F : Fr base env.locals s.heap m) (N : News base env.locals s.heap news) (hl : s.heap.IsList l items) (hlim : s.heap.NoLimit)
    (hit : ∀ (Q : Value → Shared → Prop) (E : Value → Shared → Prop), Q (.ref l) s → wpAny (model prog w) (Ar d u fr gd) (eval iter0 env) Q E s)
    (hxs : StrsAre items.toList xs) (hlen : ∀ r ∈ xs, r.length ≤ 100) (hmany : xs.length * y.cps.size ≤ 1000) (hascii : y.cps.all (· < 128) = true) (hne : x0 ≠ x1)
    (step : ∀ (C D : Addr) (tk : Nat), Step2 prog w (Ar d u fr gd) s.heap D (compEnvC scope cl C env) x0 x1 p1 elt s.os tk)
    (hcon : ∀ (env' : Env) (Q : Value → Shared → Prop) (s' : Shared), (∀ t k, s'.toks ≤ k → Q (.str y t) { s' with toks := k }) → wpAny (model prog w) (Ar d u fr gd) (eval (.Constant (.str y) kind cpos) env') Q NoE s')
    (done : ∀ D ys k (s' : Shared), StrsAre ys.toList (pairsP xs y.cps.toList) → s'.gens = s.gens → s'.os = s.os → s.toks ≤ s'.toks → Fr base env.locals s'.heap (fun z => if z = yv then some (.ref D) else m z) → News base env.locals s'.heap ([(D, lstO ys k)] ++ news) → Apart [(D, lstO ys k)] news → Q .next s')
    (hclos : closureFor scope env = pure cl) (hcell : ∀ y ∈ scope.names, y.2 ≠ .cell) (hkind : scope.kind = .function) (hnames : ∀ x ∈ scope.names, x.2 = .local → scope.names.lookup x.1 = some .local)
    (hs : ∀ x, foldedSetIterable iter0 env x = pure x)
    (hx0 : scope.names.lookup x0 = some .local)
    (hsw : swapsWith (.ListComp elt [⟨.Name x0 p0, iter0, [], 0⟩, ⟨.Name x1 p1, .Constant (.str y) kind cpos, [], 0⟩] scope pos) (some (.Name yv py)) spos.line env = pure true)
    (hy : env.kindOf yv = some .local) (hp : (env.scope.kind == .class || (env.scope.kind == .module && env.locals != env.globals)) = false) :
    wpAny (model prog w) (Ar d u fr gd) (exec (.Assign [.Name yv py] (.ListComp elt [⟨.Name x0 p0, iter0, [], 0⟩, ⟨.Name x1 p1, .Constant (.str y) kind cpos, [], 0⟩] scope pos) spos) env) Q E s := by
  rw [exec_Assign_Name_used _ _ _ _ hsw]
  refine wpAny_bind (wpAny_standAt (wpAny_bind ?_))
  show wpAny _ _ (do let _ ← comprehension (.ListComp elt [⟨.Name x0 p0, iter0, [], 0⟩, ⟨.Name x1 p1, .Constant (.str y) kind cpos, [], 0⟩] scope pos) scope env _ (newList []) false (eval iter0 env) (some (assign (.Name yv py) env))) _ _ s
  refine wpAny_bind (wpAny_mono (wpAny_comprehension_free (use := some (assign (.Name yv py) env)) (Q := fun _ s' => Q .next s') rfl hs hclos hkind hnames
    (hit _ _ (wpAny_pyIter_list hl ?_))) (fun _ s' hq => wpAny_pure (wpAny_pure hq)) fun _ _ e => e)
  have hlt : l < s.heap.objs.size := by obtain ⟨_, e, _⟩ := id hl; exact Heap.lt_size e
  have hnl : l ≠ s.heap.objs.size := Nat.ne_of_lt hlt
  let oi : Obj := { cls := .type "list_iterator", data := .fields #[.ref l, .int 0 0] }
  have hoi : (s.heap.push oi).get? s.heap.objs.size = some oi := Heap.get?_push_size _ rfl
  refine wpAny_newObj_type (wpAny_newFunctionEnv hcell (by intro y hy; simp at hy) (fun h₁ hns₁ hsb₁ => ?_) hkind)
  dsimp only at hns₁ hsb₁ ⊢
  have hz1 : (s.heap.push oi).objs.size = s.heap.objs.size + 1 := Heap.size_push ..
  generalize hH2 : (s.heap.push oi).push { cls := .type "list", dict := none, data := .seq ([] : List Value).toArray } = H2 at hns₁ hsb₁ ⊢
  have hC : H2.objs.size = s.heap.objs.size + 2 := by rw [← hH2, Heap.size_push, hz1]
  have hDC : (s.heap.push oi).objs.size ≠ H2.objs.size := by rw [hC, hz1]; exact Nat.ne_of_lt (Nat.lt_succ_self _)
  have hIC : s.heap.objs.size ≠ H2.objs.size := by rw [hC]; exact Nat.ne_of_lt (Nat.lt_succ_of_lt (Nat.lt_succ_self _))
  have below : ∀ b, b < s.heap.objs.size → b ≠ H2.objs.size := fun b hb => by rw [hC]; exact Nat.ne_of_lt (Nat.lt_succ_of_lt (Nat.lt_succ_of_lt hb))
  have old : Old s.heap h₁ := fun b o e => hsb₁.extBut b o (below b (Heap.lt_size e)) (Heap.get?_push_of_some _ (hH2 ▸ Heap.get?_push_of_some _ (Heap.get?_push_of_some _ e)))
  have hacc : h₁.get? (s.heap.push oi).objs.size = some (lstO #[] 0) := hsb₁.extBut _ _ hDC (Heap.get?_push_of_some _ (hH2 ▸ Heap.get?_push_size _ rfl))
  have hoi1 : h₁.get? s.heap.objs.size = some oi := hsb₁.extBut _ _ hIC (Heap.get?_push_of_some _ (hH2 ▸ Heap.get?_push_of_some _ hoi))
  have fresh : ∀ a, s.heap.objs.size ≤ a → s.heap.get? a = none := fun a ha => by
    cases e : s.heap.get? a with
    | none => rfl
    | some o' => exact absurd (Heap.lt_size e) (Nat.not_lt.mpr ha)
  have F₁ : Fr s.heap H2.objs.size h₁ (fun x => ([] : List (Str × Value)).reverse.lookup x) := ⟨hns₁, old, by rw [hC]; omega⟩
  have N₁ : News s.heap H2.objs.size h₁ ([((s.heap.push oi).objs.size, lstO #[] 0)] ++ [(s.heap.objs.size, oi)]) := by
    intro p hp
    rcases List.mem_cons.mp hp with rfl | hp
    · exact ⟨hacc, hDC, fresh _ (by rw [hz1]; exact Nat.le_succ _)⟩
    · rw [List.mem_singleton.mp hp]; exact ⟨hoi1, hIC, fresh _ (Nat.le_refl _)⟩
  have ap : Apart [((s.heap.push oi).objs.size, lstO #[] 0)] [(s.heap.objs.size, oi)] := by
    intro p hp q hq
    rw [List.mem_singleton.mp hp, List.mem_singleton.mp hq, hz1]; exact Nat.succ_ne_self _
  have loop : ∀ s₃ : Shared, s₃ = { s with heap := h₁, toks := s.toks + ([] : List (Str × Value)).length } →
      codeAny (model prog w) (Ar d u fr gd) (.compLoop (.ListComp elt [⟨.Name x0 p0, iter0, [], 0⟩, ⟨.Name x1 p1, .Constant (.str y) kind cpos, [], 0⟩] scope pos) 0 (.ref s.heap.objs.size) (.ref (s.heap.push oi).objs.size) (compEnvC scope cl H2.objs.size env))
        (compPost (model prog w) (Ar d u fr gd) E (some (assign (.Name yv py) env)) (fun _ s' => Q .next s') (.ref (s.heap.push oi).objs.size) H2.objs.size) s₃ := by
    rintro s₃ rfl
    refine comp2I (env := compEnvC scope cl H2.objs.size env) hxs hlen hmany hascii (ItOk.list rfl s.gens hnl hl get_size_none) (Nat.zero_le _) hlim (fun _ _ e => e) F₁ N₁ ap
      ⟨rfl, rfl, fun h O H => ⟨⟨_, holds_one.mp H, rfl, rfl⟩, hl.at fun o e => O _ _ e⟩⟩ (lookup_relabel_local hx0) (by simp [compEnvC, relabel, hkind]) hne (step _ _ _) (by rfl) (hcon _) ?_
    intro mC ys k s' hys hZ FC NC os' tk'
    have ND := NC _ (.head _)
    have hC0 : s.heap.get? H2.objs.size = none := fresh _ (by rw [hC]; omega)
    have hD0 : s.heap.get? (s.heap.push oi).objs.size = none := ND.2.2
    have F1 := Fr.old F FC.keep
    have N1 := News.join N F FC.keep hD0 ND.1
    have hLC : env.locals ≠ H2.objs.size := by
      intro e
      obtain ⟨o, _, _, ho, _⟩ := F.ns
      rw [e, hC0] at ho; cases ho
    show wpAny _ _ (assign (.Name yv py) env (.ref (s.heap.push oi).objs.size)) _ _ _
    refine wpAny_assign_Name (wpAny_storeName_local hy F1.ns (fun h₂ hn₂ hs₂ => ?_) hp)
    have F2 := F1.set hn₂ hs₂
    have N2 := N1.set hs₂
    refine ⟨mC, FC.ns.sameBut hs₂ (Ne.symm hLC), fun h₃ hs₃ => ?_⟩
    refine done _ ys k _ hys hZ os' (Nat.le_succ_of_le tk') ⟨F2.ns.sameBut hs₃ hLC, fun b o e => hs₃.extBut b o ?_ (F2.keep b o e), F2.above⟩ ?_ ?_
    · rintro rfl
      have := F.keep _ _ e
      rw [hC0] at this; cases this
    · intro p hp
      refine ⟨hs₃.extBut _ _ ?_ (N2 p hp).1, (N2 p hp).2⟩
      rcases List.mem_cons.mp hp with rfl | hp
      · exact ND.2.1
      · intro e
        have := (N p hp).1
        rw [e, hC0] at this; cases this
    · intro p hp q hq e
      rw [List.mem_singleton.mp hp] at e
      have := (N q hq).1
      rw [← e, hD0] at this; cases this
  exact codeAny_compStart_list (loop _ rfl) (wpAny_pyIter_listiter (i := 0) (l := l) ⟨_, hoi1, rfl, rfl⟩ (loop _ rfl))
end
end PartB22
end Mine

namespace Mine
section PartB23
open PySem PySem.W PySem.Calls PyProof.Rows
def rowsG : Nat → List Str
  | 0 => [Str.ofString ""]
  | i + 1 => pairsP (rowsG i) (Str.ofString "01").cps.toList
def rowsP (n : Nat) : List Str := (rowsG (n - 1)).filter fun r => ellP r == false
theorem rowsG_small : ∀ i, i ≤ 4 → (rowsG i).length ≤ 16 ∧ ∀ r ∈ rowsG i, r.length ≤ 100
  | 0, _ => by decide
  | 1, _ => by decide
  | 2, _ => by decide +kernel
  | 3, _ => by decide +kernel
  | 4, _ => by decide +kernel
  | n + 5, h => by omega
local macro_rules | `(tactic| walk_at "eval Name") => `(tactic| (k_here; k_dflt (refine' ldLoc ?k1 ?k2 ?_; (case k1 => first | k_asm | assumption); (case k2 => first | assumption | exact rfl); k_whole)))
local macro_rules | `(tactic| walk_at "storeName") => `(tactic| ((with_reducible show wpAny _ _ (storeName (compEnvC _ _ _ _) _ _) _ _ _); k_dflt (refine' storeG ?F ?N ?_; (case F => k_asm); (case N => k_asm); k_whole); intro h' F' N'))
local macro_rules | `(tactic| walk_at "forIn") => `(tactic| (k_dflt (refine wpAny_tests_one ?_)))
local macro_rules | `(tactic| walk_at "binaryOp Add str str") => `(tactic| (k_dflt (refine' addR ?z ?_; (case z => ((show _ ≤ 16777216); (show _ + 1 ≤ 16777216); omega))); intro _ _ _))
local macro_rules | `(tactic| walk_at "exec For Name Call cons nil") => `(tactic| k_dflt (refine forS ?_))
local macro_rules | `(tactic| walk_at "pyIter ref") => `(tactic| refine stopI ?_)
local macro_rules | `(tactic| walk_at "call ref") => `(tactic| refine stopI ?_)
local macro_rules | `(tactic| walk_at "eval ListComp") => `(tactic| refine stopI ?_)
local macro_rules | `(tactic| walk_at "exec Assign cons ListComp") => `(tactic| refine stopI ?_)
local macro_rules | `(tactic| walk_at "call type:range") => `(tactic| (k_here; k_dflt (refine' rangeC ?F ?N ?_; (case F => k_asm); (case N => k_asm); k_whole); intro h' r' t' u' v' tk' l' R' F' N'))
local macro_rules | `(tactic| walk_at "enterF") => `(tactic| (
  (case ho => k_is); (case hcd => k_is); (case hr => (dsimp only [Around.deeper, Around.in1]; omega)); (case hb => exact rfl); (case hl => rfl); (case hc => rfl); (case h1 => exact rfl); (case h2 => exact rfl); (case h3 => exact rfl)))
theorem fillK23 (w : World) : PySem.Challenge.rw_ux0008_01 = PySem.Challenge.rw_ux0008_01 ∧ Mine.hd.heap_39 w.params = Mine.hd.heap_39 w.params := by
  k_fill
  exact ⟨rfl, rfl⟩
section
variable {prog : Program} {w : World} {d u : Nat} {fr : Option (List Env)} {gd : Option (List Code)} {s : Shared} {loose : List Str} {mean : ExcName → Option Value} {mg mb : Str → Option Value} {Q E : Value → Shared → Prop}
theorem rows_c {n : Nat} {t : Tok} (hn : 2 ≤ n) (hn5 : n ≤ 5)
   (hroom : d + 2 < recursionLimit) (KX : (Mine.hd.heap_39 w.params).In s.heap) (T : Top Mine.hd.view_39 loose mean mg mb s.heap)
   (hQ : ∀ D ys k s', Same s s' → s.heap.get? D = none → s'.heap.get? D = some (lstO ys k) → StrsAre ys.toList (rowsP n) → Q (.ref D) s') :
   wpAny (model prog w) (Ar d u fr gd) (call (.ref 96) [.int (n : Nat) t]) Q E s := by
  refine' enterF (binds := [(Str.ofString "size", .int (n : Nat) t)]) KX T ?ho ?hcd ?hr ?hb ?hl ?hc ?_ ?h1 ?h2 ?h3
  walk_at "enterF"
  intro L h₁ F hk
  try dsimp only
  have N0 : News s.heap L h₁ [] := News.nil
  k_steps
  unfold Stop
  rename IsRange _ _ _ _ _ _ _ _ => hR
  rename Fr _ _ _ _ => F1
  rename News _ _ _ _ => N1
  refine forRange (base := s.heap) (n := n - 1) rfl hR ?_ ?_ T.nolimit (fun i m news => ∃ D ys k, m (Str.ofString "rows") = some (.ref D) ∧ news = [(D, lstO ys k)] ∧ StrsAre ys.toList (rowsG i)) F1 N1 ?_ ?_ ?_
  · exact small_one (by decide) (by decide) (by omega) (by omega)
  · rw [rangeSize_one]; split <;> omega
  · exact ⟨_, _, _, rfl, rfl, .cons _ _ .nil⟩
  · rintro S hSG i v m news own s₁ hi ⟨D, ys, k, h1, rfl, hI⟩ ⟨tv, rfl⟩ S₁ F₁ N₁ a₁ o₁ t₁
    clear F1 N1
    k_steps
    unfold Stop
    rename Fr _ _ _ _ => F2
    rename News _ _ _ _ => N2
    have hlD := N2.isList (items := ys) (a := D) (.head _)
    have hsm := rowsG_small i (by omega)
    refine' comp2A F2 N2 hlD (T.nolimit.keeps F2.keep) ?hit hI hsm.2 ?many (by decide +kernel) (by decide) ?step (fun _ _ _ h => Constant_str (h _ _ (Nat.le_succ _))) ?done (by with_unfolding_all rfl) (by decide) (by rfl) (by decide) (by intro _; rfl) (by rfl) (by with_unfolding_all rfl) (by rfl) (by rfl)
    case hit => intro Q E h; exact ldLoc F2 h1 h
    case many =>
      have := hsm.1
      show _ * 2 ≤ 1000
      omega
    case step =>
      intro C D2 tk S j r tr c tc m' ys' k' ext own' s₃ hr hm0 S₃ F₃ N₃ a₃ b₃ o₃ t₃
      k_steps
      rename Fr _ _ _ _ => FE
      rename News _ _ _ _ => NE
      exact ⟨⟨_, ys', k', own', FE, NE, a₃, b₃, S₃, rfl, hm0, _, rfl⟩, o₃, by assumption⟩
    case done =>
      intro D2 ys2 k2 s' hys hg ho ht F3 N3 A3
      dsimp only
      k_steps
      refine ⟨⟨_, [(D2, lstO ys2 k2)], own, F3, ?_, ?_, ?_, D2, ys2, k2, rfl, rfl, hys⟩, ho.trans o₁, by assumption⟩
      · intro p hp
        rcases List.mem_append.mp hp with hp | hp
        · exact N3 p (List.mem_append_left _ hp)
        · exact N3 p (List.mem_append_right _ (List.mem_append_right _ hp))
      · exact fun p hp q hq => A3 p hp q (List.mem_append_right _ hq)
      · rw [hg]; exact S₁
  · rintro m news s₁ ⟨D, ys, k, h1, rfl, hI⟩ Z₁ F₁ N₁ o₁ t₁
    clear F1 N1
    k_steps
    unfold Stop
    have hlD := N₁.isList (items := ys) (a := D) (.head _)
    have hsm := rowsG_small (n - 1) (by omega)
    have hyl := hI.length
    rw [Array.length_toList] at hyl
    refine compE F₁ N₁ ?_ (by with_unfolding_all rfl) (by decide) (by rfl) (by decide) (by intro _; rfl)
    k_steps
    unfold Stop
    refine compList rfl hlD (fun _ _ e => e) (T.nolimit.keeps F₁.keep) rfl (Nat.le_refl _)
      (fun i m zs => ∃ us, StrsAre zs.toList us ∧ us = ((rowsG (n - 1)).take i).filter (fun r => ellP r == false) ∧ zs.size ≤ i) ?_ ?_ ?_ ?_
    · exact ⟨_, .nil, rfl, Nat.le_refl _⟩
    · rintro i m zs hi ⟨_, _, _, hy⟩
      omega
    · intro s' C D2 os' tk'
      rintro S hSG i v m zs k2 own s₂ hi ⟨us, hus, hue, hzs⟩ hit S₂ F₂ N₂ a₂ b₂ o₂ t₂
      have hiy : ys.toList[i]? = some v := by rw [Array.getElem?_toList]; exact hit
      obtain ⟨uu, tv, rfl, hui⟩ := strs_item hI hiy
      have hul := hsm.2 uu (List.mem_of_getElem? hui)
      have KXb := Frag.In.keeps KX F₁.keep
      have Tb := T.keeps F₁.keep
      k_steps
      unfold Stop
      rename Fr _ _ _ _ => F7
      rename News _ _ _ _ => N7
      refine ellipsis_c hul (by dsimp only [Around.deeper, Around.in1]; omega) (Frag.In.keeps KXb F7.keep) (Tb.keeps F7.keep) ?_
      intro s8 K8
      have F8 := Fr.old F7 K8.old
      have N8 := News.old N7 K8.old
      clear F7 N7
      have hgens8 : s8.gens = s₂.gens := K8.gens
      have hos8 : s8.os = s₂.os := K8.os
      k_steps
      · rename (ellP uu == false) = true => hel
        refine ⟨⟨_, zs, k2, own, F8, N8, a₂, b₂, by rw [hgens8]; exact S₂, by omega, us ++ [uu], ?_, ?_, ?_⟩, hos8.trans o₂, by assumption⟩
        · rw [Array.toList_push]; exact StrsAre.append' hus (.cons _ _ .nil)
        · rw [List.take_add_one, hui, List.filter_append, hue]
          simp only [Option.toList_some, List.filter_cons, hel, if_true, List.filter_nil]
        · rw [Array.size_push]; omega
      · rename (ellP uu == false) = false => hel
        refine ⟨⟨_, zs, k2, own, F8, N8, a₂, b₂, by rw [hgens8]; exact S₂, us, hus, ?_, by omega⟩, hos8.trans o₂, by assumption⟩
        rw [List.take_add_one, hui, List.filter_append, hue]
        simp only [Option.toList_some, List.filter_cons, hel, Bool.false_eq_true, if_false, List.filter_nil, List.append_nil]
    · rintro D2 m zs k2 s' ⟨us, hus, hue, hzs⟩ Z9 O9 hD9 hD90 os9 tk9 F9 N9 A9
      rw [hyl, List.take_length] at hue
      intro htk9
      refine hQ D2 zs k2 s' ⟨F9.keep, os9.trans o₁, Z9.trans Z₁, htk9⟩ ?_ hD9 (by rw [hue] at hus; exact hus)
      cases e : s.heap.get? D2 with
      | none => rfl
      | some o => have := F₁.keep _ _ e; rw [hD90] at this; cases this
end
end PartB23
end Mine

namespace Mine
section PartB24
open PySem PySem.W PySem.Calls PyProof.Rows
section
variable {prog : Program} {w : World} {A : Around} {E : Value → Shared → Prop}

/-- what stands between the turns, with the tokens -/
structure TurnT (base : Heap) (L : Addr) (S : Nat → Own → Array GenState → Prop) (J : Nat → (Str → Option Value) → Own → Nat → Prop) (os : OsState) (tk0 : Nat) (i : Nat) (s : Shared) : Prop where
  all : ∃ m news own, Fr base L s.heap m ∧ News base L s.heap (news ++ own) ∧ Apart news own ∧ S i own s.gens ∧ J i m news s.toks
  os : s.os = os
  tk : tk0 ≤ s.toks

theorem forIT {R : Result → Shared → Prop} {target : Expr} {it : Value} {body orelse : List Stmt} {env : Env} {base hb : Heap} {tk0 : Nat} {n : Nat} {P : Nat → Value → Heap → Prop} {S : Nat → Own → Array GenState → Prop} {Z : Array GenState → Prop} {s : Shared}
    {m₀ : Str → Option Value} {news₀ own₀ : Own}
    (I : ItOk prog w A target it hb tk0 n P S Z) (htk0 : tk0 ≤ s.toks) (hbase : base.NoLimit) (hob : Old hb base) (J : Nat → (Str → Option Value) → Own → Nat → Prop) (hmono : ∀ i m news a b, a ≤ b → J i m news a → J i m news b)
    (F : Fr base env.locals s.heap m₀) (N : News base env.locals s.heap (news₀ ++ own₀)) (ap : Apart news₀ own₀) (hS : S 0 own₀ s.gens) (hJ : J 0 m₀ news₀ s.toks)
    (step : ∀ i v m news own (s₁ : Shared), i < n → J i m news s₁.toks → P i v s₁.heap → S (i + 1) own s₁.gens → Fr base env.locals s₁.heap m → News base env.locals s₁.heap (news ++ own) → Apart news own → s₁.os = s.os → s.toks ≤ s₁.toks →
      wpAny (model prog w) A (assign target env v) (fun _ s₂ => wpAny (model prog w) A (execs body env) (fun f s₃ => s₁.toks ≤ s₃.toks → match f with
        | .next | .cont => TurnT base env.locals S J s.os s.toks (i + 1) s₃
        | .brk => R (.ok .next) s₃
        | .ret v => R (.ok (.ret v)) s₃) NoE s₂) NoE s₁)
    (done : ∀ m news (s₁ : Shared), J n m news s₁.toks → Z s₁.gens → Fr base env.locals s₁.heap m → News base env.locals s₁.heap news → s₁.os = s.os → s.toks ≤ s₁.toks → wpAny (model prog w) A (execs orelse env) (fun f s' => R (.ok f) s') NoE s₁) :
    codeAny (model prog w) A (.forLoop target it body orelse env) R s := by
  refine forG (n := n) (fun i s₁ => TurnT base env.locals S J s.os s.toks i s₁) ?_ ?_ ⟨⟨m₀, news₀, own₀, F, N, ap, hS, hJ⟩, rfl, Nat.le_refl _⟩
  · rintro i s₁ hi ⟨⟨m, news, own, F₁, N₁, a₁, S₁, J₁⟩, hos, htk⟩
    refine I.next i own s₁ _ hi (Nat.le_trans htk0 htk) S₁ (news_holds (news_r N₁)) (fun b o e => F₁.keep b o (hob b o e)) (hbase.keeps F₁.keep) ?_
    intro v own' h' tk G' htk' S' H' M' P'
    refine wpAny_mono (wpAny_toks_of (n := tk) (Nat.le_refl _) (step i v m news own' { s₁ with heap := h', gens := G', toks := tk } hi (hmono _ _ _ _ _ htk' J₁) P' S' (M'.fr F₁ (news_r N₁)) (news_app (M'.news (news_l N₁) a₁) (M'.own F₁ (news_r N₁) H')) (M'.apart (news_l N₁) a₁) hos (Nat.le_trans htk htk'))) (fun _ s₂ h₂ => ?_) fun _ _ x => x.2
    exact wpAny_mono (wpAny_toks_of h₂.1 h₂.2) (fun f s₃ h₃ => h₃.2 h₃.1) fun _ _ x => x.2
  · rintro s₁ ⟨⟨m, news, own, F₁, N₁, a₁, S₁, J₁⟩, hos, htk⟩
    refine I.fin own s₁ _ (Nat.le_trans htk0 htk) S₁ (news_holds (news_r N₁)) (fun b o e => F₁.keep b o (hob b o e)) (hbase.keeps F₁.keep) ?_
    intro h' tk G' htk' Z' M'
    exact done m news _ (hmono _ _ _ _ _ htk' J₁) Z' (M'.fr F₁ (news_r N₁)) (M'.news (news_l N₁) a₁) hos (Nat.le_trans htk htk')

/-- for over a range, with the tokens -/
theorem forRangeT {R : Result → Shared → Prop} {x : Str} {px : Pos} {body orelse : List Stmt} {env : Env} {base : Heap} {r : Addr} {a b : Int} {t u v : Tok} {n : Nat} {s : Shared} {m₀ : Str → Option Value} {news₀ : Own}
    (hh : A.handled = none) (hr : IsRange s.heap r a b 1 t u v) (hsm : Builtin.Range.small a b 1 = true) (hn : Builtin.Range.rangeSize a b 1 = ((n : Nat) : Int)) (hbase : base.NoLimit)
    (J : Nat → (Str → Option Value) → Own → Nat → Prop) (hmono : ∀ i m news a b, a ≤ b → J i m news a → J i m news b)
    (F : Fr base env.locals s.heap m₀) (N : News base env.locals s.heap news₀) (hJ : J 0 m₀ news₀ s.toks)
    (step : ∀ (S : Nat → Own → Array GenState → Prop) (_ : ∀ i own G, S i own G → G = s.gens) (i : Nat) (v : Value) (m : Str → Option Value) (news own : Own) (s₁ : Shared), i < n → J i m news s₁.toks → (∃ t, v = .int (a + (i : Int)) t) → S (i + 1) own s₁.gens →
      Fr base env.locals s₁.heap m → News base env.locals s₁.heap (news ++ own) → Apart news own → s₁.os = s.os → s.toks ≤ s₁.toks →
      wpAny (model prog w) A (assign (.Name x px) env v) (fun _ s₂ => wpAny (model prog w) A (execs body env) (fun f s₃ => s₁.toks ≤ s₃.toks → match f with
        | .next | .cont => TurnT base env.locals S J s.os s.toks (i + 1) s₃
        | .brk => R (.ok .next) s₃
        | .ret v => R (.ok (.ret v)) s₃) NoE s₂) NoE s₁)
    (done : ∀ (m : Str → Option Value) (news : Own) (s₁ : Shared), J n m news s₁.toks → s₁.gens = s.gens → Fr base env.locals s₁.heap m → News base env.locals s₁.heap news → s₁.os = s.os → s.toks ≤ s₁.toks → wpAny (model prog w) A (execs orelse env) (fun f s' => R (.ok f) s') NoE s₁) :
    wpAny (model prog w) A (pyIter (.ref r)) (fun it s₂ => codeAny (model prog w) A (.forLoop (.Name x px) it body orelse env) R s₂) NoE s := by
  refine wpAny_pyIter_range hr hsm ?_
  have hI : base.get? s.heap.objs.size = none := by
    cases e : base.get? s.heap.objs.size with
    | none => rfl
    | some o => exact absurd (Heap.lt_size (F.keep _ _ e)) (Nat.lt_irrefl _)
  have I := ItOk.range (prog := prog) (w := w) (x := x) (px := px) (h := base) (I := s.heap.objs.size) (a := a) (n := n) hh s.gens hI
  rw [hn]
  let o : Obj := { cls := .type "range_iterator", data := .fields #[rawInt a, rawInt ((n : Nat) : Int), rawInt 1] }
  have F' : Fr base env.locals (s.heap.push o) m₀ := F.push o
  have N' : News base env.locals (s.heap.push o) ((s.heap.objs.size, o) :: news₀) := N.push F o
  refine forIT (news₀ := news₀) (own₀ := [(s.heap.objs.size, o)]) I (Nat.zero_le _) hbase (fun _ _ e => e) J hmono F' (news_app (fun p hp => N' p (.tail _ hp)) (fun p hp => N' p (by rw [List.mem_singleton.mp hp]; exact .head _))) ?_ ⟨rfl, rfl, fun h O H => ?_⟩ hJ (fun i v m news own s₁ => step _ (fun _ _ _ h => h.1) i v m news own s₁) (fun m news s₁ J₁ Z₁ => done m news s₁ J₁ Z₁)
  · intro p hp q hq e
    rw [List.mem_singleton.mp hq] at e
    have := Heap.lt_size (N p hp).1
    rw [e] at this; exact absurd this (Nat.lt_irrefl _)
  · have e := holds_one.mp H
    show h.get? _ = _
    rw [e]
    simp [o, rawInt]

/-- what stands between the turns over a list of the call's own, which stays -/
structure TurnK (base : Heap) (L l : Addr) (items : Array Value) (J : Nat → (Str → Option Value) → Own → Prop) (os : OsState) (Gp : Array GenState → Prop) (tk0 : Nat) (I : Addr) (i : Nat) (s : Shared) : Prop where
  all : ∃ m news k oi, Fr base L s.heap m ∧ News base L s.heap ([(l, lstO items k)] ++ (news ++ [(I, oi)])) ∧ Apart [(l, lstO items k)] (news ++ [(I, oi)]) ∧ Apart news [(I, oi)] ∧ s.heap.IsListIter I l i ∧ J i m news
  os : s.os = os
  gs : Gp s.gens
  tk : tk0 ≤ s.toks

structure HeldK (P : Prop) : Prop where
  go : P
theorem forListK {R : Result → Shared → Prop} {x : Str} {px : Pos} {body orelse : List Stmt} {env : Env} {base : Heap} {l : Addr} {items : Array Value} {k : Nat} {s : Shared} {m₀ : Str → Option Value} {news₀ : Own}
    (hh : A.handled = none) (Gp : Array GenState → Prop) (hG : Gp s.gens) (J : Nat → (Str → Option Value) → Own → Prop)
    (F : Fr base env.locals s.heap m₀) (N : News base env.locals s.heap ([(l, lstO items k)] ++ news₀)) (ap : Apart [(l, lstO items k)] news₀) (hJ : J 0 m₀ news₀)
    (step : ∀ (I : Addr) (i : Nat) (v : Value) (m : Str → Option Value) (news : Own) (k : Nat) (oi : Obj) (s₁ : Shared), i < items.size → J i m news → items[i]? = some v → Fr base env.locals s₁.heap m → News base env.locals s₁.heap ([(l, lstO items k)] ++ (news ++ [(I, oi)])) → Apart [(l, lstO items k)] (news ++ [(I, oi)]) → Apart news [(I, oi)] →
      s₁.os = s.os → Gp s₁.gens → s.toks ≤ s₁.toks →
      wpAny (model prog w) A (assign (.Name x px) env v) (fun _ s₂ => wpAny (model prog w) A (execs body env) (fun f s₃ => s.toks ≤ s₃.toks → match f with
        | .next | .cont => HeldK (∃ m' news' k', Fr base env.locals s₃.heap m' ∧ News base env.locals s₃.heap ([(l, lstO items k')] ++ (news' ++ [(I, oi)])) ∧ Apart [(l, lstO items k')] (news' ++ [(I, oi)]) ∧ Apart news' [(I, oi)] ∧ J (i + 1) m' news' ∧ s₃.os = s.os ∧ Gp s₃.gens)
        | .brk => R (.ok .next) s₃
        | .ret v => R (.ok (.ret v)) s₃) NoE s₂) NoE s₁)
    (done : ∀ (m : Str → Option Value) (news : Own) (k : Nat) (s₁ : Shared), J items.size m news → Fr base env.locals s₁.heap m → News base env.locals s₁.heap ([(l, lstO items k)] ++ news) → Apart [(l, lstO items k)] news → Gp s₁.gens → s₁.os = s.os → s.toks ≤ s₁.toks →
      wpAny (model prog w) A (execs orelse env) (fun f s' => R (.ok f) s') NoE s₁) :
    wpAny (model prog w) A (pyIter (.ref l)) (fun it s₂ => codeAny (model prog w) A (.forLoop (.Name x px) it body orelse env) R s₂) NoE s := by
  have hg := (N _ (.head _)).1
  have hlt : l < s.heap.objs.size := Heap.lt_size hg
  have hne : l ≠ s.heap.objs.size := Nat.ne_of_lt hlt
  refine wpAny_pyIter_list ⟨_, hg, rfl, _, rfl⟩ ?_
  have W := Walks.list (prog := prog) (w := w) hh s.heap.objs.size l hne items
  let o : Obj := { cls := .type "list_iterator", data := .fields #[.ref l, .int 0 0] }
  have F' : Fr base env.locals (s.heap.push o) m₀ := F.push o
  have N' : News base env.locals (s.heap.push o) ((s.heap.objs.size, o) :: ([(l, lstO items k)] ++ news₀)) := N.push F o
  have hnn : ∀ p ∈ [(l, lstO items k)] ++ news₀, p.1 ≠ s.heap.objs.size := fun p hp => Nat.ne_of_lt (Heap.lt_size (N p hp).1)
  refine forG (n := items.size) (fun i s₁ => TurnK base env.locals l items J s.os Gp s.toks s.heap.objs.size i s₁) ?_ ?_ ⟨⟨m₀, news₀, k, o, F', ?_, ?_, ?_, ⟨o, Heap.get?_push_size _ rfl, rfl, rfl⟩, hJ⟩, rfl, hG, Nat.le_refl _⟩
  · rintro i s₁ hi ⟨⟨m, news, k, oi, F₁, N₁, a₁, b₁, hit, J₁⟩, hos, hgs, htk⟩
    have hl1 : s₁.heap.IsList l items := ⟨_, (N₁ _ (.head _)).1, rfl, _, rfl⟩
    have hI0 := (N₁ (s.heap.objs.size, oi) (List.mem_append_right _ (List.mem_append_right _ (.head _)))).2
    refine wpAny_mono (wpAny_toks_of htk (W.item i s₁ (fun r s₂ => s.toks ≤ s₂.toks → ∃ v, r = some v ∧ _) NoE hi ⟨hit, hl1⟩ fun v h' tk hP hst hk => ?_)) (fun r s₂ h₂ => h₂.2 h₂.1) fun _ _ x => x.2
    intro htk2
    refine ⟨v, rfl, goName ?_⟩
    obtain ⟨hit', hl'⟩ := hst
    obtain ⟨oi', hoi', hoi2⟩ := hit'
    have hk' : ∀ b ob, b ≠ s.heap.objs.size → s₁.heap.get? b = some ob → h'.get? b = some ob := fun b ob hb e => hk b ob (by simpa using hb) e
    have F₂ : Fr base env.locals h' m := ⟨F₁.ns.at' fun ob e => hk' _ ob (fun q => hI0.1 q.symm) e, fun b ob e => hk' b ob (by rintro rfl; rw [hI0.2] at e; cases e) (F₁.keep b ob e), F₁.above⟩
    have N₂ : News base env.locals h' ([(l, lstO items k)] ++ (news ++ [(s.heap.objs.size, oi')])) := by
      intro p hp
      rcases List.mem_append.mp hp with hp | hp
      · have := N₁ p (List.mem_append_left _ hp)
        exact ⟨hk' _ _ (a₁ p hp _ (List.mem_append_right _ (.head _))) this.1, this.2⟩
      · rcases List.mem_append.mp hp with hp | hp
        · have := N₁ p (List.mem_append_right _ (List.mem_append_left _ hp))
          exact ⟨hk' _ _ (b₁ p hp _ (.head _)) this.1, this.2⟩
        · rw [List.mem_singleton.mp hp]; exact ⟨hoi', hI0⟩
    have A₂ : Apart [(l, lstO items k)] (news ++ [(s.heap.objs.size, oi')]) := by
      intro p hp q hq
      rcases List.mem_append.mp hq with hq | hq
      · exact a₁ p hp q (List.mem_append_left _ hq)
      · rw [List.mem_singleton.mp hq]; exact a₁ p hp (s.heap.objs.size, oi) (List.mem_append_right _ (.head _))
    have B₂ : Apart news [(s.heap.objs.size, oi')] := by
      intro p hp q hq
      rw [List.mem_singleton.mp hq]; exact b₁ p hp (s.heap.objs.size, oi) (.head _)
    refine wpAny_mono (wpAny_toks_of htk2 (step s.heap.objs.size i v m news k oi' { s₁ with heap := h', toks := tk } hi J₁ hP F₂ N₂ A₂ B₂ hos hgs htk2)) (fun _ s₃ h₃ => ?_) fun _ _ x => x.2
    refine wpAny_mono (wpAny_toks_of h₃.1 h₃.2) (fun f s₄ h₄ => ?_) fun _ _ x => x.2
    obtain ⟨t4, h₄⟩ := h₄
    have h₄ := h₄ t4
    have conv : (∃ m' news' k', Fr base env.locals s₄.heap m' ∧ News base env.locals s₄.heap ([(l, lstO items k')] ++ (news' ++ [(s.heap.objs.size, oi')])) ∧ Apart [(l, lstO items k')] (news' ++ [(s.heap.objs.size, oi')]) ∧ Apart news' [(s.heap.objs.size, oi')] ∧ J (i + 1) m' news' ∧ s₄.os = s.os ∧ Gp s₄.gens) →
        TurnK base env.locals l items J s.os Gp s.toks s.heap.objs.size (i + 1) s₄ := by
      rintro ⟨m', news', k', F4, N4, a4, b4, J4, o4, g4⟩
      exact ⟨⟨m', news', k', oi', F4, N4, a4, b4, ⟨oi', (N4 _ (List.mem_append_right _ (List.mem_append_right _ (.head _)))).1, hoi2⟩, J4⟩, o4, g4, t4⟩
    cases f with
    | next => exact conv h₄.go
    | cont => exact conv h₄.go
    | brk => exact h₄
    | ret v => exact h₄
  · rintro s₁ ⟨⟨m, news, k, oi, F₁, N₁, a₁, b₁, hit, J₁⟩, hos, hgs, htk⟩
    have hl1 : s₁.heap.IsList l items := ⟨_, (N₁ _ (.head _)).1, rfl, _, rfl⟩
    have hI0 := (N₁ (s.heap.objs.size, oi) (List.mem_append_right _ (List.mem_append_right _ (.head _)))).2
    refine wpAny_mono (wpAny_toks_of htk (W.done s₁ (fun r s₂ => s.toks ≤ s₂.toks → r = none ∧ _) NoE ⟨hit, hl1⟩ fun h' tk hk => ?_)) (fun r s₂ h₂ => h₂.2 h₂.1) fun _ _ x => x.2
    intro htk2
    refine ⟨rfl, ?_⟩
    have hk' : ∀ b ob, b ≠ s.heap.objs.size → s₁.heap.get? b = some ob → h'.get? b = some ob := fun b ob hb e => hk b ob (by simpa using hb) e
    refine done m news k { s₁ with heap := h', toks := tk } J₁ ⟨F₁.ns.at' fun ob e => hk' _ ob (fun q => hI0.1 q.symm) e, fun b ob e => hk' b ob (by rintro rfl; rw [hI0.2] at e; cases e) (F₁.keep b ob e), F₁.above⟩ ?_ (fun p hp q hq => a₁ p hp q (List.mem_append_left _ hq)) hgs hos htk2
    intro p hp
    rcases List.mem_append.mp hp with hp | hp
    · have := N₁ p (List.mem_append_left _ hp)
      exact ⟨hk' _ _ (a₁ p hp _ (List.mem_append_right _ (.head _))) this.1, this.2⟩
    · have := N₁ p (List.mem_append_right _ (List.mem_append_left _ hp))
      exact ⟨hk' _ _ (b₁ p hp _ (.head _)) this.1, this.2⟩
  · intro p hp
    rcases List.mem_append.mp hp with hp | hp
    · exact N' p (.tail _ (List.mem_append_left _ hp))
    · rcases List.mem_append.mp hp with hp | hp
      · exact N' p (.tail _ (List.mem_append_right _ hp))
      · rw [List.mem_singleton.mp hp]; exact N' _ (.head _)
  · intro p hp q hq
    rcases List.mem_append.mp hq with hq | hq
    · exact ap p hp q hq
    · rw [List.mem_singleton.mp hq]; exact hnn p (List.mem_append_left _ hp)
  · intro p hp q hq
    rw [List.mem_singleton.mp hq]; exact hnn p (List.mem_append_right _ hp)
end
end PartB24
end Mine

namespace Mine
section PartB25
open PySem PySem.W PySem.Calls PyProof.Rows
theorem fillK25 (w : World) : PySem.Challenge.rw_ux0008_01 = PySem.Challenge.rw_ux0008_01 ∧ Mine.hd.heap_39 w.params = Mine.hd.heap_39 w.params := by
  k_fill
  exact ⟨rfl, rfl⟩
local macro_rules | `(tactic| walk_at "enterF") => `(tactic| (
  (case ho => k_is); (case hcd => k_is); (case hr => (dsimp only [Around.deeper, Around.in1]; omega)); (case hb => exact rfl); (case hl => rfl); (case hc => rfl); (case h1 => exact rfl); (case h2 => exact rfl); (case h3 => exact rfl)))
section
variable {prog : Program} {w : World} {d u : Nat} {fr : Option (List Env)} {gd : Option (List Code)} {s : Shared} {loose : List Str} {mean : ExcName → Option Value} {mg mb : Str → Option Value} {Q E : Value → Shared → Prop}
theorem contains_i {l : Addr} {vs : List Value} {ns : List Int} {b : Int} {tb : Tok} (hl : s.heap.IsList l vs.toArray) (hs : IntsAre vs ns) (hroom : d + 1 < recursionLimit) (KX : (Mine.hd.heap_39 w.params).In s.heap) (T : Top Mine.hd.view_39 loose mean mg mb s.heap)
   (hQ : ∀ s', Same s s' → Q (.bool (ns.any fun x => x == b)) s') :
   wpAny (model prog w) (Ar d u fr gd) (call (.ref 56) [.ref l, .int b tb]) Q E s := by
  refine' enterF (binds := [(Str.ofString "a", .ref l), (Str.ofString "b", .int b tb)]) KX T ?ho ?hcd ?hr ?hb ?hl ?hc ?_ ?h1 ?h2 ?h3
  walk_at "enterF"
  intro L h₁ F hk
  try dsimp only
  k_steps
  (try intro htk); refine hQ _ ?_; exact ⟨hk, rfl, rfl, by assumption⟩
end
end PartB25
end Mine

namespace Mine
section PartB26a
open PySem PySem.W PySem.Calls PyProof.Rows
def firstsP : List Int := [2, -7, 1, 2, 3, 4, 0, 1, 2, 3, 1]
def drawP (sc : List Int) (k : Int) : Int := if k < (sc.length : Int) then sc.getD k.toNat 0 else firstsP.getD k.toNat 0
def drawsP (sc : List Int) : Nat → List Int
  | 0 => []
  | i + 1 => drawsP sc i ++ [drawP sc (0 + (i : Int))]
theorem drawsP_len (sc : List Int) : ∀ i, (drawsP sc i).length = i
  | 0 => rfl
  | i + 1 => by unfold drawsP; rw [List.length_append, drawsP_len sc i]; rfl
theorem rangeO {prog : Program} {w : World} {A : Around} {E : Value → Shared → Prop} {s : Shared} {h₀ : Heap} {L : Addr} {m : Str → Option Value} {news : Own} {n : Int} {t : Tok} {Q : Value → Shared → Prop} (F : Fr h₀ L s.heap m) (N : News h₀ L s.heap news)
    (h : ∀ h' r t u v tk, s.toks ≤ tk → Old s.heap h' → IsRange h' r 0 n 1 t u v → Fr h₀ L h' m → News h₀ L h' news → Q (.ref r) { s with heap := h', toks := tk }) : wpAny (model prog w) A (call (.type "range") [.int n t]) Q E s :=
  call_range_1 (h _ _ _ _ _ _ (Nat.le_add_right _ 2) (fun _ _ e => Heap.get?_push_of_some _ e) (IsRange.new _ _ _ _ _ _ _) (F.push _) (fun p hp => (N.push F _) p (.tail _ hp)))
theorem drawP_in {sc : List Int} {k : Int} (h : k < (sc.length : Int)) : drawP sc k = sc.getD k.toNat 0 := if_pos h
theorem drawP_out {sc : List Int} {k : Int} (h : ¬ k < (sc.length : Int)) : drawP sc k = firstsP.getD k.toNat 0 := if_neg h
def prodStep (ns : List Int) (p : Int) (k : Nat) : Int := if 0 < (k : Int) then p * ns.getD (k : Int).toNat 0 else p
def prodP (ns : List Int) (l : List Nat) : Int := l.foldl (prodStep ns) 1
def rowStep (ns : List Int) (wb : Int × Int) (l : List Nat) : Int × Int :=
  if (l.map fun (n : Nat) => (n : Int)).any (fun x => x == 0) then (wb.1 + prodP ns l * ns.getD (0 : Int).toNat 0, wb.2 + prodP ns l) else (wb.1 + prodP ns l, wb.2)
def sumsP (ns : List Int) (ls : List (List Nat)) : Int × Int := ls.foldl (rowStep ns) (0, 0)
theorem add_O {prog : Program} {w : World} {A : Around} {E : Value → Shared → Prop} {s : Shared} {l b : Addr} {its its2 : Array Value} {ns ms : List Int} {Q : Value → Shared → Prop} (hl : s.heap.IsList l its) (hb : s.heap.IsList b its2) (hi : IntsAre its.toList ns) (hj : IntsAre its2.toList ms)
    (hsz : its.size + its2.size ≤ sizeLine)
    (h : ∀ h' D xs, Old s.heap h' → h'.IsList D xs → IntsAre xs.toList (ns ++ ms) → Q (.ref D) { s with heap := h' }) :
    wpAny (model prog w) A (binaryOp .Add (.ref l) (.ref b)) Q E s := by
  obtain ⟨⟨cls, dd, data, sl⟩, ho, hc, n, hd⟩ := id hl
  obtain ⟨⟨cls2, dd2, data2, sl2⟩, ho2, hc2, n2, hd2⟩ := id hb
  simp only at hc hd hc2 hd2
  subst hc hd hc2 hd2
  refine concat_meets ⟨_, ho, rfl⟩ ⟨_, ho2, rfl⟩ noFill_list_add seq_list_add PySem.F.slot_list_add PySem.F.entry_list_add (PySem.F.args_list_add_2 _ _) (list_addW l b its its2 n n2 dd dd2 sl sl2 hsz) ⟨ho, ho2, ?_⟩
  refine h _ _ (its ++ its2) (fun _ _ e => Heap.get?_push_of_some _ e) ⟨_, Heap.get?_push_size _ rfl, rfl, _, rfl⟩ ?_
  rw [Array.toList_append]
  exact IntsAre.append hi hj
theorem prod_next {ns : List Int} {l : List Nat} {j k : Nat} (h : l[j]? = some k) : prodP ns (l.take (j + 1)) = prodStep ns (prodP ns (l.take j)) k := by
  unfold prodP
  rw [List.take_add_one, h, List.foldl_append]; rfl
theorem prodStep_pos {ns : List Int} {p : Int} {k : Nat} (h : 0 < (k : Int)) : prodStep ns p k = p * ns.getD (k : Int).toNat 0 := if_pos h
theorem prodStep_zero {ns : List Int} {p : Int} {k : Nat} (h : ¬ 0 < (k : Int)) : prodStep ns p k = p := if_neg h
theorem sums_next {ns : List Int} {f : Str → List Nat} {xs : List Str} {i : Nat} {x : Str} (h : xs[i]? = some x) : sumsP ns ((xs.take (i + 1)).map f) = rowStep ns (sumsP ns ((xs.take i).map f)) (f x) := by
  unfold sumsP
  rw [List.take_add_one, h, List.map_append, List.foldl_append]; rfl
theorem ints_item : ∀ {vs : List Value} {ns : List Int} {i : Nat} {v : Value}, IntsAre vs ns → vs[i]? = some v → ∃ a t, v = .int a t ∧ ns[i]? = some a
  | _, _, _, _, .nil, e => nomatch e
  | _, _, 0, _, .cons z t h, e => by
    simp at e
    exact ⟨z, t, e.symm, rfl⟩
  | _, _, i + 1, _, .cons z t h, e => by
    simp only [List.getElem?_cons_succ] at e ⊢
    exact ints_item h e
structure RowOk (n : Nat) (x : Str) (nms sgs : List Str) : Prop where
  len : x.length + 1 = n
  pos : 0 < (stripP (textP x nms nms.length ++ Str.ofString "\\")).cps.size
  small : (stripP (textP x nms nms.length ++ Str.ofString "\\")).length ≤ 1000
  last : (unitsP (stripP (textP x nms nms.length ++ Str.ofString "\\"))).getLast? = some (Str.ofString "\\")
  lt : ∀ k ∈ leftP x nms sgs, k < n
theorem news_swap {h₀ h : Heap} {L : Addr} {a b : Addr × Obj} {r : Own} (N : News h₀ L h (a :: b :: r)) : News h₀ L h (b :: a :: r) := by
  intro p hp
  rcases List.mem_cons.mp hp with rfl | hp
  · exact N _ (.tail _ (.head _))
  · rcases List.mem_cons.mp hp with rfl | hp
    · exact N _ (.head _)
    · exact N p (.tail _ (.tail _ hp))
theorem apart_4 {own : Own} {a b c d : Addr} {oa ob oc od : Obj} (h1 : b ≠ a) (h2 : c ≠ a) (h3 : d ≠ a) (h4 : ∀ q ∈ own, a ≠ q.1) : Apart [(a, oa)] ((b, ob) :: (c, oc) :: (d, od) :: own) := by
  intro p hp q hq
  rw [List.mem_singleton.mp hp]
  rcases List.mem_cons.mp hq with rfl | hq
  · exact Ne.symm h1
  · rcases List.mem_cons.mp hq with rfl | hq
    · exact Ne.symm h2
    · rcases List.mem_cons.mp hq with rfl | hq
      · exact Ne.symm h3
      · exact h4 q hq
def letterP (i : Nat) : Str := ⟨#[97 + i]⟩
theorem letter_at {i : Nat} (h : i < 5) : (Str.ofString "abcde").cps[(0 + (i : Int)).toNat]? = some (97 + i) := by
  have e : (0 + (i : Int)).toNat = i := by omega
  rw [e]
  match i, h with
  | 0, _ => rfl
  | 1, _ => rfl
  | 2, _ => rfl
  | 3, _ => rfl
  | 4, _ => rfl
def kindP (ds : List Int) (i : Nat) : Int := Int.fmod (ds.getD (6 + (0 + (i : Int))).toNat 0) 4
def signP (ds : List Int) (i : Nat) : Str := if kindP ds i = 1 then Str.ofString "\\" ++ letterP i else letterP i
def nameP (ds : List Int) (i : Nat) : Str := if kindP ds i = 3 then Str.ofString "\\\\" ++ signP ds i else if kindP ds i = 2 then signP ds i ++ Str.ofString "\\\"" else signP ds i
def signsP (ds : List Int) : Nat → List Str
  | 0 => []
  | i + 1 => signsP ds i ++ [signP ds i]
def namesP (ds : List Int) : Nat → List Str
  | 0 => []
  | i + 1 => namesP ds i ++ [nameP ds i]
theorem signP_len (ds : List Int) (i : Nat) : (signP ds i).length ≤ 2 := by
  unfold signP
  split
  · rw [cat_len]; exact (show (1 : Nat) + 1 ≤ 2 by decide)
  · exact (show (1 : Nat) ≤ 2 by decide)
theorem nameP_len (ds : List Int) (i : Nat) : (nameP ds i).length ≤ 10 := by
  have h1 := signP_len ds i
  have h2 : (Str.ofString "\\\\").length = 2 := rfl
  have h3 : (Str.ofString "\\\"").length = 2 := rfl
  unfold nameP
  split
  · rw [cat_len]; omega
  · split
    · rw [cat_len]; omega
    · omega
theorem namesP_small (ds : List Int) : ∀ i, ∀ y ∈ namesP ds i, y.length ≤ 10
  | 0, _, h => nomatch h
  | i + 1, y, h => by
    rcases List.mem_append.mp h with h | h
    · exact namesP_small ds i y h
    · rw [List.mem_singleton.mp h]; exact nameP_len ds i
theorem signsP_len (ds : List Int) : ∀ i, (signsP ds i).length = i
  | 0 => rfl
  | i + 1 => by unfold signsP; rw [List.length_append, signsP_len ds i]; rfl
theorem namesP_len (ds : List Int) : ∀ i, (namesP ds i).length = i
  | 0 => rfl
  | i + 1 => by unfold namesP; rw [List.length_append, namesP_len ds i]; rfl
theorem numbers_len (ds : List Int) : (numbersP ds).length = (sizeP ds).toNat ∧ 2 ≤ sizeP ds ∧ sizeP ds ≤ 5 := by
  have h4 := fmod_nn (ds.getD (0 : Int).toNat 0) (show (0 : Int) < 4 by decide)
  have h5 := fmod_lt (ds.getD (0 : Int).toNat 0) (show (0 : Int) < 4 by decide)
  have hs1 : sizeP ds = 2 + Int.fmod (ds.getD (0 : Int).toNat 0) 4 := rfl
  refine ⟨?_, by omega, by omega⟩
  unfold numbersP
  rw [List.length_append, midsP_len, List.length_singleton]
  omega
end PartB26a
end Mine

namespace Mine
section PartP1
open PySem PySem.W PySem.Calls PyProof.Rows
/-- Euler's continuant -/
def cont : List Int → Int
  | [] => 1
  | [a] => a
  | a :: b :: r => a * cont (b :: r) + cont r
/-- numbers from 1 on, the last from 2 on, none above a line -/
def Tail : List Int → Prop
  | [] => False
  | [b] => 2 ≤ b ∧ b ≤ 1000000001
  | b :: c :: r => 1 ≤ b ∧ b ≤ 1000000001 ∧ Tail (c :: r)
theorem cont_pos : ∀ (r : List Int), Tail r → 2 ≤ cont r ∧ cont r ≤ 1000000002 ^ r.length ∧ ∀ b s, r = b :: s → 1 ≤ cont s ∧ cont s ≤ 1000000002 ^ s.length ∧ cont s < cont r
  | [], h => h.elim
  | [b], h => by
    refine ⟨h.1, by have := h.2; show b ≤ 1000000002 ^ 1; rw [Int.pow_one]; omega, ?_⟩
    intro b' s e
    cases e
    exact ⟨by decide, by decide, by show (1 : Int) < b; have := h.1; omega⟩
  | b :: c :: r, h => by
    obtain ⟨h1, h2, h3⟩ := h
    obtain ⟨i1, i2, i3⟩ := cont_pos (c :: r) h3
    obtain ⟨j1, j2, j3⟩ := i3 c r rfl
    have e : cont (b :: c :: r) = b * cont (c :: r) + cont r := rfl
    have m1 : cont (c :: r) ≤ b * cont (c :: r) := by
      have := Int.mul_le_mul_of_nonneg_right h1 (show 0 ≤ cont (c :: r) by omega)
      omega
    have m2 : b * cont (c :: r) ≤ 1000000001 * cont (c :: r) := Int.mul_le_mul_of_nonneg_right h2 (by omega)
    have lt : cont (c :: r) < cont (b :: c :: r) := by rw [e]; omega
    refine ⟨by omega, ?_, ?_⟩
    · rw [e]
      have e2 : (1000000002 : Int) ^ (b :: c :: r).length = 1000000002 ^ (c :: r).length * 1000000002 := by rw [List.length_cons, Int.pow_succ]
      rw [e2]
      omega
    · intro b' s es
      cases es
      exact ⟨by omega, i2, lt⟩
theorem fdiv_of {a b q r : Int} (h : a = q * b + r) (h0 : 0 ≤ r) (h1 : r < b) : Int.fdiv a b = q ∧ Int.fmod a b = r := by
  have hb : 0 < b := by omega
  rw [Int.fdiv_eq_ediv_of_nonneg _ (Int.le_of_lt hb), Int.fmod_eq_emod_of_nonneg _ (Int.le_of_lt hb), h]
  constructor
  · rw [Int.add_comm, Int.add_mul_ediv_right _ _ (Int.ne_of_gt hb), Int.ediv_eq_zero_of_lt h0 h1]; omega
  · rw [Int.add_comm, Int.add_mul_emod_self_right, Int.emod_eq_of_lt h0 h1]
theorem log_of {b : Int} {n : Nat} (h0 : 0 < b) (h : b ≤ 1000000002 ^ n) (hn : n ≤ 5) : b.natAbs.log2 < 9000 := by
  have h5 : (1000000002 : Int) ^ n ≤ 1000000002 ^ 5 := by
    match n, hn with
    | 0, _ => decide +kernel
    | 1, _ => decide +kernel
    | 2, _ => decide +kernel
    | 3, _ => decide +kernel
    | 4, _ => decide +kernel
    | 5, _ => decide +kernel
  have h6 : b.natAbs < 2 ^ 200 := by
    have : (1000000002 : Int) ^ 5 < 2 ^ 200 := by decide +kernel
    have h8 : ((2 ^ 200 : Nat) : Int) = 2 ^ 200 := by decide +kernel
    omega
  have h7 : b.natAbs ≠ 0 := by omega
  exact Nat.lt_of_lt_of_le ((Nat.log2_lt h7).mpr h6) (by decide)
theorem euc_cont : ∀ (r : List Int) (a : Int), Tail r → r.length ≤ 5 → Euc (cont (a :: r)) (cont r) (a :: r) 1
  | [], _, h, _ => h.elim
  | [b], a, h, _ => by
    have hb := h.1
    have e1 := fdiv_of (a := a * b + 1) (b := b) (q := a) (r := 1) rfl (by decide) (by omega)
    have s2 : Euc b 1 [b] 1 := by
      have e2 := fdiv_of (a := b) (b := 1) (q := b) (r := 0) (by omega) (by decide) (by decide)
      have := Euc.step (a := b) (b := 1) (g := 1) (fs := []) (by decide) (by decide) (by rw [e2.2]; exact Euc.stop 1)
      rw [e2.1] at this; exact this
    have := Euc.step (a := a * b + 1) (b := b) (g := 1) (fs := [b]) (by omega) (log_of (n := 1) (by omega) (by have := h.2; rw [Int.pow_one]; omega) (by decide)) (by rw [e1.2]; exact s2)
    rw [e1.1] at this
    exact this
  | b :: c :: r, a, h, hl => by
    obtain ⟨p1, p2, p3⟩ := cont_pos (b :: c :: r) h
    obtain ⟨q1, q2, q3⟩ := p3 b (c :: r) rfl
    have ih := euc_cont (c :: r) b h.2.2 (by simp at hl ⊢; omega)
    have e1 := fdiv_of (a := a * cont (b :: c :: r) + cont (c :: r)) (b := cont (b :: c :: r)) (q := a) (r := cont (c :: r)) rfl (by omega) q3
    have := Euc.step (a := a * cont (b :: c :: r) + cont (c :: r)) (b := cont (b :: c :: r)) (g := 1) (fs := b :: c :: r) (by omega) (log_of (by omega) p2 hl) (by rw [e1.2]; exact ih)
    rw [e1.1] at this
    exact this
theorem euc_neg : ∀ {a b g : Int} {fs : List Int}, Euc a b fs g → Euc (-a) (-b) fs (-g)
  | _, _, _, _, .stop a => .stop (-a)
  | _, _, _, _, .step (a := a) (b := b) h1 h2 h3 => by
    have ih := euc_neg h3
    have e1 : Int.fdiv (-a) (-b) = Int.fdiv a b := by rw [Int.neg_fdiv_neg]
    have e2 : Int.fmod (-a) (-b) = - Int.fmod a b := by rw [Int.fmod_def, Int.fmod_def, e1, Int.neg_mul]; omega
    have := Euc.step (a := -a) (b := -b) (by omega) (by rw [Int.natAbs_neg]; exact h2) (by rw [e2]; exact ih)
    rw [e1] at this
    exact this
theorem euc_mul {W B : Int} (hB : 0 < B) (hl : B.natAbs.log2 < 9000) : Euc (W * B) B [W] B := by
  have e := fdiv_of (a := W * B) (b := B) (q := W) (r := 0) (by omega) (by decide) hB
  have := Euc.step (a := W * B) (b := B) (g := B) (fs := []) (by omega) hl (by rw [e.2]; exact .stop B)
  rw [e.1] at this
  exact this
theorem euc_mul_neg {W B : Int} (hB : 0 < B) (hl : B.natAbs.log2 < 9000) : Euc (W * B) (-B) [-W] (-B) := by
  have := euc_neg (euc_mul (W := -W) hB hl)
  rw [Int.neg_mul, Int.neg_neg] at this
  exact this
end PartP1
end Mine

namespace Mine
section PartP2
open PySem PySem.W PySem.Calls PyProof.Rows
/-- one sign of the strip: behind a backslash, within marks, kept -/
def keepStep (st : Bool × Bool × List Nat) (c : Nat) : Bool × Bool × List Nat :=
  if st.1 = true then (false, st.2.1, if st.2.1 = true then st.2.2 else st.2.2 ++ [c])
  else if c = 92 then (true, st.2.1, if st.2.1 = true then st.2.2 else st.2.2 ++ [c])
  else if c = 34 then (false, !st.2.1, st.2.2)
  else (false, st.2.1, if st.2.1 = true then st.2.2 else st.2.2 ++ [c])
def joined (ys : List Str) : List Nat := ys.flatMap fun y => y.cps.toList
theorem joined_eq : ∀ ys : List Str, (Txt.join (Str.ofString "") ys).cps.toList = joined ys
  | [] => rfl
  | [x] => by
    show (Builtin.Str.glued (Str.ofString "") [x]).cps.toList = _
    rw [StrLaws.glued_eq_join]
    show x.cps.toList = _
    simp [joined]
  | x :: y :: r => by
    have ih := joined_eq (y :: r)
    unfold Txt.join at ih ⊢
    rw [StrLaws.glued_eq_join] at ih ⊢
    show (x ++ Str.ofString "" ++ Str.join (Str.ofString "") (y :: r)).cps.toList = _
    show ((x.cps ++ (Str.ofString "").cps) ++ (Str.join (Str.ofString "") (y :: r)).cps).toList = _
    rw [Array.toList_append, Array.toList_append, ih, show (Str.ofString "").cps = #[] from rfl]
    simp [joined]
theorem joined_snoc (ys : List Str) (y : Str) : joined (ys ++ [y]) = joined ys ++ y.cps.toList := by
  simp [joined]
def part (x : Str) (a b : Nat) : List Nat := (x.cps.toList.drop a).take (b - a)
theorem part_slice (x : Str) {a b : Nat} (hab : a ≤ b) (hb : b ≤ x.length) : (Txt.slice x (some (a : Nat)) (some (b : Nat))).cps.toList = part x a b := by
  have := StrLaws.sliceText_nat x hab hb
  rw [show Txt.slice x (some (a : Nat)) (some (b : Nat)) = StrLaws.sliceText x (some (a : Nat)) (some (b : Nat)) from rfl, this]
  rfl
theorem len_codes (x : Str) : x.cps.toList.length = x.length := by simp [Str.length]
theorem part_from (x : Str) {a : Nat} (ha : a ≤ x.length) : (Txt.slice x (some (a : Nat)) none).cps.toList = part x a x.length := by
  have := StrLaws.sliceText_from (x := x) (i := (a : Int)) ⟨by omega, by rw [len_codes]; omega⟩
  rw [show Txt.slice x (some (a : Nat)) none = StrLaws.sliceText x (some (a : Nat)) none from rfl, this, len_codes]
  show _ = (x.cps.toList.drop a).take (x.length - a)
  rw [show ((a : Nat) : Int).toNat = a from rfl, show ((x.length : Int) - (a : Int)).toNat = x.length - a by omega]
theorem part_self (x : Str) (a : Nat) : part x a a = [] := by simp [part]
theorem part_snoc {x : Str} {p r : List Nat} {c : Nat} (h : x.cps.toList = p ++ c :: r) {a : Nat} (ha : a ≤ p.length) : part x a (p.length + 1) = part x a p.length ++ [c] := by
  unfold part
  rw [show p.length + 1 - a = (p.length - a) + 1 by omega, List.take_add_one]
  congr 1
  rw [List.getElem?_drop, h, show a + (p.length - a) = p.length by omega, List.getElem?_append_right (Nat.le_refl _)]
  simp
def Rel (x : Str) (i : Nat) (st : Nat × Option Nat × List Str) (o : Bool) (kp : List Nat) : Prop :=
  match st.2.1 with
  | none => o = false ∧ st.1 ≤ i ∧ kp = joined st.2.2 ++ part x st.1 i
  | some q => o = true ∧ st.1 ≤ q ∧ q ≤ i ∧ kp = joined st.2.2 ++ part x st.1 q
theorem Rel.keep {x : Str} {p r : List Nat} {c : Nat} {st : Nat × Option Nat × List Str} {o : Bool} {kp : List Nat} (h : x.cps.toList = p ++ c :: r) (R : Rel x p.length st o kp) : Rel x (p.length + 1) st o (if o = true then kp else kp ++ [c]) := by
  obtain ⟨a, q, ys⟩ := st
  cases q with
  | none =>
    obtain ⟨rfl, h2, rfl⟩ := R
    refine ⟨rfl, Nat.le_succ_of_le h2, ?_⟩
    rw [if_neg Bool.false_ne_true, part_snoc h h2, List.append_assoc]
  | some q =>
    obtain ⟨rfl, h2, h3, rfl⟩ := R
    exact ⟨rfl, h2, Nat.le_succ_of_le h3, if_pos rfl⟩
theorem slash : Str.ofString "\\" = ⟨#[92]⟩ := rfl
theorem quote : Str.ofString "\"" = ⟨#[34]⟩ := rfl
theorem str_beq_iff {x y : Str} : (x == y) = true ↔ x = y := beq_iff_eq
theorem esc_no_quote (c : Nat) : ((Str.ofString "\\" ++ ⟨#[c]⟩ : Str) == Str.ofString "\"") = false := by
  rw [Bool.eq_false_iff]
  intro h
  have := congrArg Str.length (str_beq_iff.mp h)
  rw [cat_len] at this
  exact absurd this (by show ¬ (1 + 1 = 1); decide)
theorem one_eq {a b : Nat} : ((⟨#[a]⟩ : Str) = ⟨#[b]⟩) ↔ a = b := by
  constructor
  · intro h; injection h with h; simpa using h
  · intro h; rw [h]
theorem strip_keep {x : Str} : ∀ (r p : List Nat) (st : Nat × Option Nat × List Str) (b o : Bool) (kp : List Nat), x.cps.toList = p ++ r → Rel x p.length st o kp →
    (r.foldl keepStep (b, o, kp)).2.1 = false → (stripEnd x ((escs r p.length b).foldl (stripStep x) st)).cps.toList = (r.foldl keepStep (b, o, kp)).2.2
  | [], p, st, b, o, kp, hx, R, ho => by
    have hl : p.length = x.length := by rw [← len_codes, hx, List.append_nil]
    have e : (escs [] p.length b).foldl (stripStep x) st = st := by
      cases b with
      | false => rfl
      | true =>
        show stripStep x st (p.length - 1, Str.ofString "\\") = st
        exact if_neg (show ¬ (Str.ofString "\\" == Str.ofString "\"") = true by decide)
    rw [e]
    change o = false at ho
    subst ho
    obtain ⟨a, q, ys⟩ := st
    cases q with
    | some q => exact nomatch R.1
    | none =>
      obtain ⟨_, h2, rfl⟩ := R
      change a ≤ _ at h2
      show (stripEnd x (a, none, ys)).cps.toList = joined ys ++ part x a p.length
      unfold stripEnd
      rw [joined_eq, hl]
      by_cases ha : (a : Int) < x.length
      · rw [if_pos ha, joined_snoc, part_from x (by omega)]
      · rw [if_neg ha, show a = x.length by omega, part_self, List.append_nil]
  | c :: r, p, st, b, o, kp, hx, R, ho => by
    have hx' : x.cps.toList = (p ++ [c]) ++ r := by rw [hx, List.append_assoc]; rfl
    have hpl : (p ++ [c]).length = p.length + 1 := by simp
    have Rk := R.keep hx
    have go : ∀ st' b' o' kp', Rel x (p.length + 1) st' o' kp' → keepStep (b, o, kp) c = (b', o', kp') → (escs (c :: r) p.length b).foldl (stripStep x) st = (escs r (p.length + 1) b').foldl (stripStep x) st' →
        (stripEnd x ((escs (c :: r) p.length b).foldl (stripStep x) st)).cps.toList = ((c :: r).foldl keepStep (b, o, kp)).2.2 := by
      intro st' b' o' kp' R' hk he
      rw [List.foldl_cons, hk] at ho ⊢
      rw [he]
      have := strip_keep r (p ++ [c]) st' b' o' kp' hx' (by rw [hpl]; exact R') ho
      rw [hpl] at this
      exact this
    cases b with
    | true =>
      refine go _ _ _ _ Rk rfl ?_
      show (escs r (p.length + 1) false).foldl (stripStep x) (stripStep x st (p.length, Str.ofString "\\" ++ ⟨#[c]⟩)) = _
      rw [show stripStep x st (p.length, Str.ofString "\\" ++ ⟨#[c]⟩) = st from if_neg (by rw [esc_no_quote]; decide)]
    | false =>
      by_cases h1 : c = 92
      · subst h1
        refine go _ true _ _ Rk ?_ ?_
        · show (if false = true then _ else if 92 = 92 then _ else _) = _
          rw [if_neg Bool.false_ne_true, if_pos rfl]
        · rfl
      · have n1 : ¬ ((⟨#[c]⟩ : Str) == Str.ofString "\\") = true := by rw [str_beq_iff, slash, one_eq]; exact h1
        have e1 : escs (c :: r) p.length false = (p.length, ⟨#[c]⟩) :: escs r (p.length + 1) false := if_neg n1
        by_cases h2 : c = 34
        · subst h2
          have kk : keepStep (false, o, kp) 34 = (false, !o, kp) := by
            show (if false = true then _ else if 34 = 92 then _ else if 34 = 34 then _ else _) = _
            rw [if_neg Bool.false_ne_true, if_neg (by decide), if_pos rfl]
          have hpx : p.length ≤ x.length := by rw [← len_codes, hx]; simp
          obtain ⟨a, q, ys⟩ := st
          cases q with
          | none =>
            obtain ⟨rfl, h2, rfl⟩ := R
            change a ≤ _ at h2
            refine go (a, some p.length, ys) false true _ ⟨rfl, h2, Nat.le_succ _, rfl⟩ kk ?_
            rw [e1]
            rfl
          | some q =>
            obtain ⟨rfl, h2, h3, rfl⟩ := R
            change a ≤ q at h2
            change q ≤ _ at h3
            refine go (p.length + 1, none, if (a : Int) ≠ q then ys ++ [Txt.slice x (some (a : Nat)) (some (q : Nat))] else ys) false false _ ⟨rfl, Nat.le_refl _, ?_⟩ kk ?_
            · rw [part_self, List.append_nil]
              show joined ys ++ part x a q = joined (if (a : Int) ≠ q then ys ++ [Txt.slice x (some (a : Nat)) (some (q : Nat))] else ys)
              by_cases ha : (a : Int) ≠ q
              · rw [if_pos ha, joined_snoc, part_slice x h2 (by omega)]
              · rw [if_neg ha, show a = q by omega, part_self, List.append_nil]
            · rw [e1]
              rfl
        · have n2 : ¬ ((⟨#[c]⟩ : Str) == Str.ofString "\"") = true := by rw [str_beq_iff, quote, one_eq]; exact h2
          refine go _ false _ _ Rk ?_ ?_
          · show (if false = true then _ else if c = 92 then _ else if c = 34 then _ else _) = _
            rw [if_neg Bool.false_ne_true, if_neg h1, if_neg h2]
          · rw [e1, List.foldl_cons, show stripStep x st (p.length, ⟨#[c]⟩) = st from if_neg n2]
end PartP2
end Mine

namespace Mine
section PartP3
open PySem PySem.W PySem.Calls PyProof.Rows
theorem keep_all : ∀ (l : List Nat) (b : Bool) (kp : List Nat), 34 ∉ l → (l.foldl keepStep (b, false, kp)).2 = (false, kp ++ l)
  | [], _, kp, _ => by simp
  | c :: r, b, kp, h => by
    have hc : c ≠ 34 := fun e => h (by rw [e]; exact .head _)
    have hr : 34 ∉ r := fun e => h (.tail _ e)
    have : ∃ b', keepStep (b, false, kp) c = (b', false, kp ++ [c]) := by
      unfold keepStep
      cases b with
      | true => exact ⟨_, rfl⟩
      | false =>
        simp only [Bool.false_eq_true, if_false, if_neg hc]
        split
        · exact ⟨_, rfl⟩
        · exact ⟨_, rfl⟩
    obtain ⟨b', e⟩ := this
    rw [List.foldl_cons, e, keep_all r b' _ hr, List.append_assoc]; rfl
theorem strip_codes {x : Str} (h : (x.cps.toList.foldl keepStep (false, false, [])).2.1 = false) : (stripP x).cps.toList = (x.cps.toList.foldl keepStep (false, false, [])).2.2 := by
  unfold stripP
  by_cases hq : (Builtin.Str.occurrences x (Str.ofString "\"") 0 x.length 1).isEmpty = true
  · rw [if_pos hq]
    have e := empty_one x 34
    rw [quote, e] at hq
    have hn : 34 ∉ x.cps.toList := by simpa using hq
    rw [keep_all _ _ _ hn, List.nil_append]
  · rw [if_neg hq]
    exact strip_keep x.cps.toList [] (0, none, []) false false [] rfl ⟨rfl, Nat.le_refl _, by simp [joined, part]⟩ h
/-- a text that the strip takes as one piece -/
def Whole (u : List Nat) : Prop := ∀ o kp, u.foldl keepStep (false, o, kp) = (false, o, if o = true then kp else kp ++ u)
def opn (x : Str) (i : Nat) : Bool := decide (0 < i) && decide (i ≤ x.length) && bit x ((i : Int) - 1)
def keepIdx (x : Str) (k : Nat) : Bool := !(decide (0 < k) && bit x ((k : Int) - 1)) && !(decide (k < x.length) && bit x k)
def nameAt (nms : List Str) (k : Nat) : List Nat := (nms.getD k Str.empty).cps.toList
def idxs (x : Str) (i : Nat) : List Nat := (List.range i).filter (keepIdx x)
def keptOf (x : Str) (nms : List Str) (i : Nat) : List Nat := (idxs x i).flatMap (nameAt nms)
theorem idxs_succ (x : Str) (i : Nat) : idxs x (i + 1) = idxs x i ++ if keepIdx x i = true then [i] else [] := by
  unfold idxs
  rw [List.range_succ, List.filter_append]
  congr 1
  cases h : keepIdx x i <;> simp [h]
theorem kept_yes {x : Str} {nms : List Str} {i : Nat} (h : keepIdx x i = true) : keptOf x nms (i + 1) = keptOf x nms i ++ nameAt nms i := by
  unfold keptOf
  rw [idxs_succ, if_pos h, List.flatMap_append]; simp
theorem kept_no {x : Str} {nms : List Str} {i : Nat} (h : keepIdx x i = false) : keptOf x nms (i + 1) = keptOf x nms i := by
  unfold keptOf
  rw [idxs_succ, if_neg (by rw [h]; exact Bool.false_ne_true), List.append_nil]
theorem app_codes (x y : Str) : (x ++ y).cps.toList = x.cps.toList ++ y.cps.toList := by
  show (x.cps ++ y.cps).toList = _
  exact Array.toList_append
theorem keep_mark (o : Bool) (kp : List Nat) : keepStep (false, o, kp) 34 = (false, !o, kp) := by
  show (if false = true then _ else if 34 = 92 then _ else if 34 = 34 then _ else _) = _
  rw [if_neg Bool.false_ne_true, if_neg (by decide), if_pos rfl]
theorem text_run {x : Str} {nms : List Str} (hw : ∀ k, k < nms.length → Whole (nameAt nms k)) (hn : x.length + 1 = nms.length)
    (h11 : ∀ k : Nat, 0 < k → k < x.length → bit x ((k : Int) - 1) = true → bit x k = false) : ∀ i, i ≤ nms.length →
    (textP x nms i).cps.toList.foldl keepStep (false, false, []) = (false, opn x i, keptOf x nms i)
  | 0, _ => rfl
  | i + 1, hi => by
    have ih := text_run hw hn h11 i (Nat.le_of_succ_le hi)
    have hwi := hw i hi
    have e : textP x nms (i + 1) = textStep x (i : Int) (textP x nms i) (nms.getD i Str.empty) := by
      show textStep x (0 + (i : Int)) (textP x nms i) (nms.getD (0 + (i : Int)).toNat Str.empty) = _
      rw [Int.zero_add]; rfl
    have ho1 : opn x (i + 1) = (decide (i < x.length) && bit x i) := by
      unfold opn
      rw [show (((i + 1 : Nat) : Int) - 1) = (i : Int) by omega, show decide (0 < i + 1) = true from decide_eq_true (Nat.succ_pos i), Bool.true_and]
      rfl
    have ho0 : opn x i = (decide (0 < i) && bit x ((i : Int) - 1)) := by
      unfold opn
      rw [show decide (i ≤ x.length) = true from decide_eq_true (by omega), Bool.and_true]
    rw [e, ho1]
    unfold textStep
    by_cases c1 : 0 < (i : Int) ∧ bit x ((i : Int) - 1) = true
    · obtain ⟨c1, c2⟩ := c1
      rw [if_pos ⟨c1, c2⟩, app_codes, app_codes, List.foldl_append, List.foldl_append, ih, ho0, c2, show decide (0 < i) = true from decide_eq_true (by omega)]
      have hb : (decide (i < x.length) && bit x i) = false := by
        by_cases hl : i < x.length
        · rw [h11 i (by omega) hl c2, Bool.and_false]
        · rw [decide_eq_false hl, Bool.false_and]
      have hk : keepIdx x i = false := by
        unfold keepIdx
        rw [c2, show decide (0 < i) = true from decide_eq_true (by omega)]; rfl
      rw [hb, kept_no hk]
      show (Str.ofString "\"").cps.toList.foldl keepStep ((nameAt nms i).foldl keepStep (false, true, keptOf x nms i)) = _
      rw [hwi true]
      exact keep_mark _ _
    · rw [if_neg c1]
      have hoF : opn x i = false := by
        rw [ho0]
        by_cases hp : 0 < i
        · cases hb : bit x ((i : Int) - 1) with
          | false => rw [Bool.and_false]
          | true => exact absurd ⟨by omega, hb⟩ c1
        · rw [decide_eq_false hp, Bool.false_and]
      rw [hoF] at ih
      by_cases c3 : (i : Int) < (x.length : Int) ∧ bit x i = true
      · obtain ⟨c3, c4⟩ := c3
        have hlt : decide (i < x.length) = true := decide_eq_true (by omega)
        rw [if_pos ⟨c3, c4⟩, app_codes, app_codes, List.foldl_append, List.foldl_append, ih, c4, hlt]
        have hk : keepIdx x i = false := by
          unfold keepIdx
          rw [c4, hlt]; simp
        rw [kept_no hk]
        show (nameAt nms i).foldl keepStep ([34].foldl keepStep (false, false, keptOf x nms i)) = _
        rw [List.foldl_cons, List.foldl_nil, keep_mark, Bool.not_false, hwi true]
        rfl
      · rw [if_neg c3, app_codes, List.foldl_append, ih]
        have hb : (decide (i < x.length) && bit x i) = false := by
          by_cases hl : i < x.length
          · cases hb : bit x i with
            | false => rw [Bool.and_false]
            | true => exact absurd ⟨by omega, hb⟩ c3
          · rw [decide_eq_false hl, Bool.false_and]
        have hk : keepIdx x i = true := by
          unfold keepIdx
          rw [hb, ← ho0, hoF]; rfl
        rw [hb, kept_yes hk]
        show (nameAt nms i).foldl keepStep (false, false, keptOf x nms i) = _
        rw [hwi false, if_neg Bool.false_ne_true]
theorem shorn_codes {x : Str} {nms : List Str} (hw : ∀ k, k < nms.length → Whole (nameAt nms k)) (hn : x.length + 1 = nms.length)
    (h11 : ∀ k : Nat, 0 < k → k < x.length → bit x ((k : Int) - 1) = true → bit x k = false) :
    (stripP (textP x nms nms.length ++ Str.ofString "\\")).cps.toList = keptOf x nms nms.length ++ [92] := by
  have e := text_run hw hn h11 nms.length (Nat.le_refl _)
  have ho : opn x nms.length = false := by
    unfold opn
    rw [show decide (nms.length ≤ x.length) = false from decide_eq_false (by omega), Bool.and_false, Bool.false_and]
  rw [ho] at e
  have e2 : (textP x nms nms.length ++ Str.ofString "\\").cps.toList.foldl keepStep (false, false, []) = (true, false, keptOf x nms nms.length ++ [92]) := by
    rw [app_codes, List.foldl_append, e]; rfl
  rw [strip_codes (by rw [e2]), e2]
/-- each unit stands where it is told -/
theorem slice_ok {x : Str} : ∀ (r p : List Nat) (b : Bool), x.cps.toList = p ++ r → (b = true → ∃ p', p = p' ++ [92]) → ∀ q ∈ escs r p.length b, sliceOk x q = true
  | [], p, true, hx, hb, q, hq => by
    obtain ⟨p', rfl⟩ := hb rfl
    simp only [escs, List.mem_singleton] at hq
    subst hq
    have hl : x.length = p'.length + 1 := by rw [← len_codes, hx]; simp
    unfold sliceOk
    have e := part_slice x (a := p'.length) (b := p'.length + 1) (by omega) (by omega)
    simp only [List.length_append, List.length_singleton, Nat.add_sub_cancel]
    rw [show ((p'.length : Nat) : Int) + 1 - (((Str.ofString "\\").length : Nat) : Int) = ((p'.length : Nat) : Int) by show ((p'.length : Nat) : Int) + 1 - ((1 : Nat) : Int) = _; omega,
      show ((p'.length : Nat) : Int) + 1 = ((p'.length + 1 : Nat) : Int) by omega]
    rw [str_beq_iff]
    apply Str.ext'
    apply Array.toList_inj.mp
    rw [e]
    have := part_snoc (x := x) (p := p') (r := []) (c := 92) (by rw [hx]; simp) (a := p'.length) (Nat.le_refl _)
    rw [this, part_self]; rfl
  | [], p, false, _, _, q, hq => nomatch hq
  | c :: r, p, true, hx, hb, q, hq => by
    have hx' : x.cps.toList = (p ++ [c]) ++ r := by rw [hx, List.append_assoc]; rfl
    have hpl : (p ++ [c]).length = p.length + 1 := by simp
    simp only [escs, List.mem_cons] at hq
    rcases hq with rfl | hq
    · obtain ⟨p', rfl⟩ := hb rfl
      have hl : x.length = p'.length + 1 + 1 + r.length := by rw [← len_codes, hx]; simp; omega
      unfold sliceOk
      have e := part_slice x (a := p'.length) (b := p'.length + 1 + 1) (by omega) (by omega)
      simp only [List.length_append, List.length_singleton]
      rw [cat_len, show ((p'.length + 1 : Nat) : Int) + 1 - (((Str.ofString "\\").length + (⟨#[c]⟩ : Str).length : Nat) : Int) = ((p'.length : Nat) : Int) by show ((p'.length + 1 : Nat) : Int) + 1 - ((1 + 1 : Nat) : Int) = _; omega,
        show ((p'.length + 1 : Nat) : Int) + 1 = ((p'.length + 1 + 1 : Nat) : Int) by omega]
      rw [str_beq_iff]
      apply Str.ext'
      apply Array.toList_inj.mp
      rw [e]
      have h1 := part_snoc (x := x) (p := p') (r := c :: r) (c := 92) (by rw [hx]; simp) (a := p'.length) (Nat.le_refl _)
      have h2 := part_snoc (x := x) (p := p' ++ [92]) (r := r) (c := c) hx (a := p'.length) (by simp)
      rw [List.length_append, List.length_singleton] at h2
      rw [h2, h1, part_self]; rfl
    · exact slice_ok r (p ++ [c]) false hx' (fun h => nomatch h) q (by rw [hpl]; exact hq)
  | c :: r, p, false, hx, hb, q, hq => by
    have hx' : x.cps.toList = (p ++ [c]) ++ r := by rw [hx, List.append_assoc]; rfl
    have hpl : (p ++ [c]).length = p.length + 1 := by simp
    unfold escs at hq
    split at hq
    · rename_i hc
      have hc' : c = 92 := by rw [str_beq_iff, slash, one_eq] at hc; exact hc
      exact slice_ok r (p ++ [c]) true hx' (fun _ => ⟨p, by rw [hc']⟩) q (by rw [hpl]; exact hq)
    · rcases List.mem_cons.mp hq with rfl | hq
      · have hl : x.length = p.length + 1 + r.length := by rw [← len_codes, hx]; simp; omega
        unfold sliceOk
        have e := part_slice x (a := p.length) (b := p.length + 1) (by omega) (by omega)
        simp only
        rw [show ((p.length : Nat) : Int) + 1 - (((⟨#[c]⟩ : Str).length : Nat) : Int) = ((p.length : Nat) : Int) by show ((p.length : Nat) : Int) + 1 - ((1 : Nat) : Int) = _; omega,
          show ((p.length : Nat) : Int) + 1 = ((p.length + 1 : Nat) : Int) by omega]
        rw [str_beq_iff]
        apply Str.ext'
        apply Array.toList_inj.mp
        rw [e]
        have := part_snoc hx (a := p.length) (Nat.le_refl _)
        rw [this, part_self]; rfl
      · exact slice_ok r (p ++ [c]) false hx' (fun h => nomatch h) q (by rw [hpl]; exact hq)
theorem units_all (x : Str) : unitsP x = (escs x.cps.toList 0 false).map (·.2) := by
  unfold unitsP
  rw [List.filter_eq_self.mpr]
  exact slice_ok x.cps.toList [] false rfl (fun h => nomatch h)
end PartP3
end Mine

namespace Mine
section PartP4
open PySem PySem.W PySem.Calls PyProof.Rows
theorem whole_kept {u : List Nat} (h : ∀ c ∈ u, c ≠ 92 ∧ c ≠ 34) : Whole u := by
  intro o
  induction u with
  | nil => intro kp; cases o <;> simp
  | cons c r ih =>
    intro kp
    have hc := h c (.head _)
    have e : keepStep (false, o, kp) c = (false, o, if o = true then kp else kp ++ [c]) := by
      show (if false = true then _ else if c = 92 then _ else if c = 34 then _ else _) = _
      rw [if_neg Bool.false_ne_true, if_neg hc.1, if_neg hc.2]
    rw [List.foldl_cons, e, ih (fun d hd => h d (.tail _ hd))]
    cases o <;> simp
theorem whole_esc (c : Nat) : Whole [92, c] := by
  intro o kp
  show keepStep (keepStep (false, o, kp) 92) c = _
  have e : keepStep (false, o, kp) 92 = (true, o, if o = true then kp else kp ++ [92]) := by
    show (if false = true then _ else if 92 = 92 then _ else _) = _
    rw [if_neg Bool.false_ne_true, if_pos rfl]
  rw [e]
  show (false, o, if o = true then (if o = true then kp else kp ++ [92]) else (if o = true then kp else kp ++ [92]) ++ [c]) = _
  cases o <;> simp
theorem Whole.app {u v : List Nat} (hu : Whole u) (hv : Whole v) : Whole (u ++ v) := by
  intro o kp
  rw [List.foldl_append, hu, hv]
  cases o <;> simp
/-- the units of a text that ends behind no backslash -/
def Units (u : List Nat) (us : List Str) : Prop := ∀ r i, (escs (u ++ r) i false).map (·.2) = us ++ (escs r (i + u.length) false).map (·.2)
theorem units_one {c : Nat} (h : c ≠ 92) : Units [c] [⟨#[c]⟩] := by
  intro r i
  have n1 : ¬ ((⟨#[c]⟩ : Str) == Str.ofString "\\") = true := by rw [str_beq_iff, slash, one_eq]; exact h
  have e1 : escs (c :: r) i false = (i, ⟨#[c]⟩) :: escs r (i + 1) false := if_neg n1
  show (escs (c :: r) i false).map (·.2) = _
  rw [e1]; rfl
theorem units_esc (c : Nat) : Units [92, c] [Str.ofString "\\" ++ ⟨#[c]⟩] := by
  intro r i
  have e1 : escs (92 :: c :: r) i false = escs (c :: r) (i + 1) true := if_pos (by decide)
  show (escs (92 :: c :: r) i false).map (·.2) = _
  rw [e1]; rfl
theorem Units.app {u v : List Nat} {us vs : List Str} (hu : Units u us) (hv : Units v vs) : Units (u ++ v) (us ++ vs) := by
  intro r i
  rw [List.append_assoc, hu, hv, List.append_assoc, List.length_append, Nat.add_assoc]
/-- the units of a name -/
def unitsN (ds : List Int) (k : Nat) : List Str :=
  if kindP ds k = 3 then [⟨#[92, 92]⟩] ++ [signP ds k] else if kindP ds k = 2 then [signP ds k] ++ [⟨#[92, 34]⟩] else [signP ds k]
theorem sign_codes (ds : List Int) (k : Nat) : (signP ds k).cps.toList = if kindP ds k = 1 then [92, 97 + k] else [97 + k] := by
  unfold signP
  by_cases h : kindP ds k = 1
  · rw [if_pos h, if_pos h]; rfl
  · rw [if_neg h, if_neg h]; rfl
theorem sign_ok (ds : List Int) (k : Nat) : Whole (signP ds k).cps.toList ∧ Units (signP ds k).cps.toList [signP ds k] := by
  have h97 : 97 + k ≠ 92 ∧ 97 + k ≠ 34 := by omega
  unfold signP
  by_cases h : kindP ds k = 1
  · rw [if_pos h]
    exact ⟨whole_esc _, units_esc _⟩
  · rw [if_neg h]
    refine ⟨whole_kept ?_, units_one h97.1⟩
    intro c hc
    cases List.mem_singleton.mp hc
    exact h97
theorem name_ok (ds : List Int) (k : Nat) : Whole (nameP ds k).cps.toList ∧ Units (nameP ds k).cps.toList (unitsN ds k) := by
  obtain ⟨h1, h2⟩ := sign_ok ds k
  unfold nameP unitsN
  by_cases h : kindP ds k = 3
  · rw [if_pos h, if_pos h, app_codes]
    exact ⟨(whole_esc 92).app h1, (units_esc 92).app h2⟩
  · rw [if_neg h, if_neg h]
    by_cases h' : kindP ds k = 2
    · rw [if_pos h', if_pos h', app_codes]
      exact ⟨h1.app (whole_esc 34), h2.app (units_esc 34)⟩
    · rw [if_neg h', if_neg h']
      exact ⟨h1, h2⟩
theorem signs_map (ds : List Int) : ∀ n, signsP ds n = (List.range n).map (signP ds)
  | 0 => rfl
  | n + 1 => by unfold signsP; rw [signs_map ds n, List.range_succ, List.map_append]; rfl
theorem names_map (ds : List Int) : ∀ n, namesP ds n = (List.range n).map (nameP ds)
  | 0 => rfl
  | n + 1 => by unfold namesP; rw [names_map ds n, List.range_succ, List.map_append]; rfl
theorem names_at (ds : List Int) {n k : Nat} (h : k < n) : nameAt (namesP ds n) k = (nameP ds k).cps.toList := by
  unfold nameAt
  rw [names_map, List.getD_eq_getElem?_getD, List.getElem?_map, List.getElem?_range h]; rfl
theorem sign_last (ds : List Int) (k : Nat) : (signP ds k).cps.toList.getLast? = some (97 + k) := by
  rw [sign_codes]
  split <;> rfl
theorem sign_inj {ds : List Int} {j k : Nat} (h : signP ds j = signP ds k) : j = k := by
  have h1 := sign_last ds j
  rw [h, sign_last] at h1
  injection h1 with h1
  omega
theorem not_sign {ds : List Int} {n : Nat} {y : Str} {c : Nat} (h : y.cps.toList.getLast? = some c) (hc : c < 97) : y ∉ signsP ds n ++ signsP ds n := by
  intro hy
  have : y ∈ signsP ds n := by rcases List.mem_append.mp hy with h | h <;> exact h
  rw [signs_map] at this
  obtain ⟨j, _, rfl⟩ := List.mem_map.mp this
  rw [sign_last] at h
  injection h with h
  omega
theorem idx_sign (ds : List Int) : ∀ (n k : Nat) (rest : List Str), k < n → (signsP ds n ++ rest).idxOf (signP ds k) = k
  | n + 1, k, rest, h => by
    unfold signsP
    rw [List.append_assoc]
    by_cases hk : k < n
    · exact idx_sign ds n k _ hk
    · have hkn : k = n := by omega
      subst hkn
      have hn : signP ds k ∉ signsP ds k := by
        rw [signs_map]
        intro hm
        obtain ⟨j, hj, e⟩ := List.mem_map.mp hm
        have := sign_inj e
        rw [List.mem_range] at hj
        omega
      rw [List.idxOf_append, if_neg hn, signsP_len]
      simp
theorem found_app (sgs us vs : List Str) : foundP sgs (us ++ vs) = foundP sgs us ++ foundP sgs vs := by
  unfold foundP
  rw [List.filter_append, List.map_append]
theorem found_none {sgs : List Str} {y : Str} (h : y ∉ sgs) : foundP sgs [y] = [] := by
  unfold foundP
  have : (sgs.any fun z => z == y) = false := by
    rw [List.any_eq_false]
    intro z hz he
    exact h ((str_beq_iff.mp he) ▸ hz)
  simp [this]
theorem found_sign {ds : List Int} {n k : Nat} (h : k < n) : foundP (signsP ds n ++ signsP ds n) [signP ds k] = [k] := by
  unfold foundP
  have hm : signP ds k ∈ signsP ds n ++ signsP ds n := by
    refine List.mem_append_left _ ?_
    rw [signs_map]
    exact List.mem_map.mpr ⟨k, List.mem_range.mpr h, rfl⟩
  have : ((signsP ds n ++ signsP ds n).any fun z => z == signP ds k) = true := by
    rw [List.any_eq_true]
    exact ⟨_, hm, str_beq_iff.mpr rfl⟩
  rw [List.filter_cons, if_pos this, List.filter_nil, List.map_cons, List.map_nil, idx_sign ds n k _ h]
theorem found_name {ds : List Int} {n k : Nat} (h : k < n) : foundP (signsP ds n ++ signsP ds n) (unitsN ds k) = [k] := by
  unfold unitsN
  split
  · rw [found_app, found_sign h, found_none (not_sign (c := 92) rfl (by decide))]; rfl
  · split
    · rw [found_app, found_sign h, found_none (not_sign (c := 34) rfl (by decide))]; rfl
    · exact found_sign h
theorem units_names {ds : List Int} {n : Nat} : ∀ (ks : List Nat) (i : Nat), (∀ k ∈ ks, k < n) →
    (escs (ks.flatMap (nameAt (namesP ds n)) ++ [92]) i false).map (·.2) = ks.flatMap (unitsN ds) ++ [Str.ofString "\\"]
  | [], i, _ => rfl
  | k :: ks, i, h => by
    rw [List.flatMap_cons, List.flatMap_cons, List.append_assoc, names_at ds (h k (.head _)), (name_ok ds k).2, units_names ks _ (fun j hj => h j (.tail _ hj)), List.append_assoc]
theorem found_names {ds : List Int} {n : Nat} : ∀ (ks : List Nat), (∀ k ∈ ks, k < n) → foundP (signsP ds n ++ signsP ds n) (ks.flatMap (unitsN ds) ++ [Str.ofString "\\"]) = ks
  | [], _ => found_none (not_sign (c := 92) rfl (by decide))
  | k :: ks, h => by
    rw [List.flatMap_cons, List.append_assoc, found_app, found_name (h k (.head _)), found_names ks (fun j hj => h j (.tail _ hj))]; rfl
theorem idxs_lt {x : Str} {n k : Nat} (h : k ∈ idxs x n) : k < n := List.mem_range.mp (List.mem_filter.mp h).1
/-- no two neighbouring signs -/
def Row (n : Nat) (x : Str) : Prop := x.length + 1 = n ∧ ∀ k : Nat, 0 < k → k < x.length → bit x ((k : Int) - 1) = true → bit x k = false
theorem shorn_row {ds : List Int} {n : Nat} {x : Str} (h : Row n x) : (stripP (textP x (namesP ds n) (namesP ds n).length ++ Str.ofString "\\")).cps.toList = (idxs x n).flatMap (nameAt (namesP ds n)) ++ [92] := by
  have := shorn_codes (x := x) (nms := namesP ds n) (by
    intro k hk
    rw [namesP_len] at hk
    rw [names_at ds hk]
    exact (name_ok ds k).1) (by rw [namesP_len]; exact h.1) h.2
  rw [this]
  unfold keptOf
  rw [namesP_len]
theorem units_row {ds : List Int} {n : Nat} {x : Str} (h : Row n x) : unitsP (stripP (textP x (namesP ds n) (namesP ds n).length ++ Str.ofString "\\")) = (idxs x n).flatMap (unitsN ds) ++ [Str.ofString "\\"] := by
  rw [units_all, shorn_row h, units_names _ _ fun _ => idxs_lt]
theorem left_row {ds : List Int} {n : Nat} {x : Str} (h : Row n x) : leftP x (namesP ds n) (signsP ds n ++ signsP ds n) = idxs x n := by
  unfold leftP
  rw [units_row h, found_names _ fun _ => idxs_lt]
theorem flat_len {ds : List Int} {n : Nat} : ∀ ks : List Nat, (ks.flatMap (nameAt (namesP ds n))).length ≤ 10 * ks.length
  | [] => Nat.le_refl _
  | k :: ks => by
    have ih := flat_len (ds := ds) (n := n) ks
    have h1 : (nameAt (namesP ds n) k).length ≤ 10 := by
      unfold nameAt
      rw [len_codes, List.getD_eq_getElem?_getD]
      cases e : (namesP ds n)[k]? with
      | none => exact Nat.zero_le _
      | some y => exact namesP_small ds n y (List.mem_of_getElem? e)
    rw [List.flatMap_cons, List.length_append, List.length_cons]
    omega
theorem idxs_len (x : Str) (n : Nat) : (idxs x n).length ≤ n := by
  unfold idxs
  refine Nat.le_trans (List.length_filter_le _ _) ?_
  rw [List.length_range]; exact Nat.le_refl _
theorem row_ok {ds : List Int} {n : Nat} {x : Str} (h : Row n x) (hn : n ≤ 5) : RowOk n x (namesP ds n) (signsP ds n ++ signsP ds n) := by
  have hc := shorn_row (ds := ds) h
  have hl : (stripP (textP x (namesP ds n) (namesP ds n).length ++ Str.ofString "\\")).length = ((idxs x n).flatMap (nameAt (namesP ds n))).length + 1 := by
    rw [← len_codes, hc, List.length_append, List.length_singleton]
  have h1 := flat_len (ds := ds) (n := n) (idxs x n)
  have h2 := idxs_len x n
  refine ⟨h.1, ?_, ?_, ?_, ?_⟩
  · show 0 < (stripP (textP x (namesP ds n) (namesP ds n).length ++ Str.ofString "\\")).length
    rw [hl]; exact Nat.succ_pos _
  · rw [hl]; omega
  · rw [units_row h, List.getLast?_append]; rfl
  · intro k hk
    rw [left_row h] at hk
    exact idxs_lt hk
end PartP4
end Mine

namespace Mine
section PartP5
open PySem PySem.W PySem.Calls PyProof.Rows
theorem post_true (sc : List Int) : PySem.Challenge.rw_ux0008_01.row.claim.post [ofPy (PyData.list (List.map PyData.int sc))] (WData.bool true) [ofPy (PyData.list (List.map PyData.int sc))] = true := by
  exact postW_of (by wrow_shape) (by wtm_val) (by str_meet; first | done | w_fin)
def rowB (n : Nat) (x : Str) : Bool := (x.length + 1 == n) && (List.range x.length).all fun k => !(decide (0 < k)) || !(bit x ((k : Int) - 1)) || !(bit x k)
theorem rowB_row {n : Nat} {x : Str} (h : rowB n x = true) : Row n x := by
  unfold rowB at h
  rw [Bool.and_eq_true, beq_iff_eq, List.all_eq_true] at h
  refine ⟨h.1, fun k h0 hk hb => ?_⟩
  have := h.2 k (List.mem_range.mpr hk)
  rw [hb, decide_eq_true h0] at this
  simpa using this
def rowsL : Nat → List Str
  | 2 => [⟨#[48]⟩, ⟨#[49]⟩]
  | 3 => [⟨#[48, 48]⟩, ⟨#[48, 49]⟩, ⟨#[49, 48]⟩]
  | 4 => [⟨#[48, 48, 48]⟩, ⟨#[48, 48, 49]⟩, ⟨#[48, 49, 48]⟩, ⟨#[49, 48, 48]⟩, ⟨#[49, 48, 49]⟩]
  | 5 => [⟨#[48, 48, 48, 48]⟩, ⟨#[48, 48, 48, 49]⟩, ⟨#[48, 48, 49, 48]⟩, ⟨#[48, 49, 48, 48]⟩, ⟨#[48, 49, 48, 49]⟩, ⟨#[49, 48, 48, 48]⟩, ⟨#[49, 48, 48, 49]⟩, ⟨#[49, 48, 49, 48]⟩]
  | _ => []
theorem rows_2 : rowsP 2 = rowsL 2 := by decide +kernel
theorem rows_3 : rowsP 3 = rowsL 3 := by decide +kernel
theorem rows_4 : rowsP 4 = rowsL 4 := by decide +kernel
theorem rows_5 : rowsP 5 = rowsL 5 := by decide +kernel
theorem rows_L {n : Nat} (h2 : 2 ≤ n) (h5 : n ≤ 5) : rowsP n = rowsL n := by
  match n, h2, h5 with
  | 2, _, _ => exact rows_2
  | 3, _, _ => exact rows_3
  | 4, _, _ => exact rows_4
  | 5, _, _ => exact rows_5
theorem rows_ok {n : Nat} (h2 : 2 ≤ n) (h5 : n ≤ 5) : ∀ x ∈ rowsP n, Row n x := by
  have h : (rowsL n).all (rowB n) = true := by
    match n, h2, h5 with
    | 2, _, _ => decide +kernel
    | 3, _, _ => decide +kernel
    | 4, _, _ => decide +kernel
    | 5, _, _ => decide +kernel
  rw [rows_L h2 h5]
  intro x hx
  exact rowB_row (List.all_eq_true.mp h x hx)
def idxL : Nat → List (List Nat)
  | 2 => [[0, 1], []]
  | 3 => [[0, 1, 2], [0], [2]]
  | 4 => [[0, 1, 2, 3], [0, 1], [0, 3], [2, 3], []]
  | 5 => [[0, 1, 2, 3, 4], [0, 1, 2], [0, 1, 4], [0, 3, 4], [0], [2, 3, 4], [2], [4]]
  | _ => []
theorem idx_L {n : Nat} (h2 : 2 ≤ n) (h5 : n ≤ 5) : (rowsL n).map (fun x => idxs x n) = idxL n := by
  match n, h2, h5 with
  | 2, _, _ => decide +kernel
  | 3, _, _ => decide +kernel
  | 4, _, _ => decide +kernel
  | 5, _, _ => decide +kernel
theorem lefts {ds : List Int} {n : Nat} (h2 : 2 ≤ n) (h5 : n ≤ 5) : ((rowsP n).map fun x => leftP x (namesP ds n) (signsP ds n ++ signsP ds n)) = idxL n := by
  rw [← idx_L h2 h5, ← rows_L h2 h5]
  exact List.map_congr_left fun x hx => left_row (rows_ok h2 h5 x hx)
theorem sums_cont : ∀ (ns : List Int), 2 ≤ ns.length → ns.length ≤ 5 → sumsP ns (idxL ns.length) = (cont ns, cont ns.tail)
  | [a, b], _, _ => by
    simp [sumsP, idxL, rowStep, prodP, prodStep, cont]
    try grind
  | [a, b, c], _, _ => by
    simp [sumsP, idxL, rowStep, prodP, prodStep, cont]
    try grind
  | [a, b, c, d], _, _ => by
    simp [sumsP, idxL, rowStep, prodP, prodStep, cont]
    try grind
  | [a, b, c, d, e], _, _ => by
    simp [sumsP, idxL, rowStep, prodP, prodStep, cont]
    try grind
end PartP5
end Mine

namespace Mine
section PartP6
open PySem PySem.W PySem.Calls PyProof.Rows
theorem mids_shape (ds : List Int) : ∀ i, ∃ r, midsP ds i = firstP ds :: r ∧ ∀ b ∈ r, 1 ≤ b ∧ b ≤ 1000000001
  | 0 => ⟨[], rfl, fun _ h => nomatch h⟩
  | i + 1 => by
    obtain ⟨r, e, h⟩ := mids_shape ds i
    refine ⟨r ++ [midP ds (2 + (i : Int))], ?_, ?_⟩
    · show midsP ds i ++ [midP ds (2 + (i : Int))] = _
      rw [e]; rfl
    · intro b hb
      rcases List.mem_append.mp hb with hb | hb
      · exact h b hb
      · rw [List.mem_singleton.mp hb]
        have h1 := fmod_nn (ds.getD (2 + (i : Int)).toNat 0) (show (0 : Int) < 1000000000 by decide)
        have h2 := fmod_lt (ds.getD (2 + (i : Int)).toNat 0) (show (0 : Int) < 1000000000 by decide)
        unfold midP
        omega
theorem tail_of {l : Int} (hl : 2 ≤ l ∧ l ≤ 1000000001) : ∀ (r : List Int), (∀ b ∈ r, 1 ≤ b ∧ b ≤ 1000000001) → Tail (r ++ [l])
  | [], _ => hl
  | [b], h => ⟨(h b (.head _)).1, (h b (.head _)).2, hl⟩
  | b :: c :: r, h => ⟨(h b (.head _)).1, (h b (.head _)).2, tail_of hl (c :: r) fun d hd => h d (.tail _ hd)⟩
theorem numbers_shape (ds : List Int) : ∃ a r, numbersP ds = a :: r ∧ Tail r ∧ r.length ≤ 5 ∧ -1000000001 ≤ a ∧ a ≤ 1000000001 ∧ ∀ b ∈ r, 1 ≤ b ∧ b ≤ 1000000001 := by
  obtain ⟨hn, h2, h5⟩ := numbers_len ds
  obtain ⟨r, e, h⟩ := mids_shape ds (sizeP ds - 2).toNat
  have hl : 2 ≤ lastP ds ∧ lastP ds ≤ 1000000001 := by
    have h1 := fmod_nn (ds.getD (sizeP ds).toNat 0) (show (0 : Int) < 1000000000 by decide)
    have h2 := fmod_lt (ds.getD (sizeP ds).toNat 0) (show (0 : Int) < 1000000000 by decide)
    unfold lastP
    omega
  have hf : -1000000001 ≤ firstP ds ∧ firstP ds ≤ 1000000001 := by
    have h1 := fmod_nn (ds.getD (1 : Int).toNat 0 + 1000000000) (show (0 : Int) < 2000000001 by decide)
    have h2 := fmod_lt (ds.getD (1 : Int).toNat 0 + 1000000000) (show (0 : Int) < 2000000001 by decide)
    unfold firstP
    omega
  have e2 : numbersP ds = firstP ds :: (r ++ [lastP ds]) := by
    unfold numbersP
    rw [e]; rfl
  refine ⟨firstP ds, r ++ [lastP ds], e2, tail_of hl r h, ?_, hf.1, hf.2, ?_⟩
  · rw [e2, List.length_cons] at hn
    omega
  · intro b hb
    rcases List.mem_append.mp hb with hb | hb
    · exact h b hb
    · rw [List.mem_singleton.mp hb]
      omega
theorem numbers_mul (ds : List Int) (p k : Int) : IntMulOk p ((numbersP ds).getD k.toNat 0) := by
  obtain ⟨a, r, e, _, _, h1, h2, h3⟩ := numbers_shape ds
  have hb : -1000000001 ≤ (numbersP ds).getD k.toNat 0 ∧ (numbersP ds).getD k.toNat 0 ≤ 1000000001 := by
    rw [List.getD_eq_getElem?_getD]
    cases h : (numbersP ds)[k.toNat]? with
    | none => exact ⟨by decide, by decide⟩
    | some b =>
      show -1000000001 ≤ b ∧ b ≤ 1000000001
      have hm := List.mem_of_getElem? h
      rw [e] at hm
      rcases List.mem_cons.mp hm with rfl | hm
      · exact ⟨h1, h2⟩
      · have := h3 b hm; omega
  exact IntMulOk.of_right (intBits_le_64 (by omega) (by omega))
theorem bits_of {z : Int} (h1 : -(2 ^ 240 : Int) < z) (h2 : z < 2 ^ 240) : Builtin.Int.intBits z ≤ 2 ^ 20 := by
  unfold Builtin.Int.intBits
  split
  · exact Nat.zero_le _
  · have e : ((2 ^ 240 : Nat) : Int) = 2 ^ 240 := by decide +kernel
    have hn : z.natAbs < 2 ^ 240 := by omega
    have h0 : z.natAbs ≠ 0 := by
      intro h
      have : z = 0 := by omega
      simp_all
    have := (Nat.log2_lt h0).mpr hn
    omega
/-- all that the law asks of the two sums -/
theorem all_sums {ds : List Int} {n : Nat} {W B : Int} (hn : (numbersP ds).length = n) (h : sumsP (numbersP ds) ((rowsP (numbersP ds).length).map fun x => leftP x (namesP ds n) (signsP ds n ++ signsP ds n)) = (W, B)) :
    Euc W B (numbersP ds) 1 ∧ Euc (-W) (-B) (numbersP ds) (-1) ∧ Euc (W * B) B [W] B ∧ Euc (W * B) (-B) [-W] (-B) ∧ IntMulOk W B := by
  obtain ⟨hl, h2, h5⟩ := numbers_len ds
  have l2 : 2 ≤ (numbersP ds).length := by omega
  have l5 : (numbersP ds).length ≤ 5 := by omega
  rw [← hn, lefts l2 l5, sums_cont _ l2 l5] at h
  obtain ⟨a, r, e, hT, hr5, ha1, ha2, hb⟩ := numbers_shape ds
  rw [e] at h ⊢
  injection h with hW hB
  subst hW
  subst hB
  show Euc (cont (a :: r)) (cont r) (a :: r) 1 ∧ Euc (-cont (a :: r)) (-cont r) (a :: r) (-1) ∧ Euc (cont (a :: r) * cont r) (cont r) [cont (a :: r)] (cont r) ∧ Euc (cont (a :: r) * cont r) (-cont r) [-cont (a :: r)] (-cont r) ∧ IntMulOk (cont (a :: r)) (cont r)
  obtain ⟨p1, p2, p3⟩ := cont_pos r hT
  have hlog := log_of (by omega) p2 hr5
  have E := euc_cont r a hT hr5
  refine ⟨E, euc_neg E, euc_mul (by omega) hlog, euc_mul_neg (by omega) hlog, ?_⟩
  have hB : cont r < 2 ^ 200 := by
    have e200 : ((2 ^ 200 : Nat) : Int) = 2 ^ 200 := by decide +kernel
    have hp : (1000000002 : Int) ^ r.length ≤ 1000000002 ^ 5 := by
      match r.length, hr5 with
      | 0, _ => decide +kernel
      | 1, _ => decide +kernel
      | 2, _ => decide +kernel
      | 3, _ => decide +kernel
      | 4, _ => decide +kernel
      | 5, _ => decide +kernel
    have : (1000000002 : Int) ^ 5 < 2 ^ 200 := by decide +kernel
    omega
  have hW : -(1000000001 * cont r) ≤ cont (a :: r) ∧ cont (a :: r) ≤ 1000000001 * cont r + cont r := by
    cases r with
    | nil => exact hT.elim
    | cons b s =>
      obtain ⟨q1, q2, q3⟩ := p3 b s rfl
      have e1 : cont (a :: b :: s) = a * cont (b :: s) + cont s := rfl
      have m1 : -1000000001 * cont (b :: s) ≤ a * cont (b :: s) := Int.mul_le_mul_of_nonneg_right ha1 (by omega)
      have m2 : a * cont (b :: s) ≤ 1000000001 * cont (b :: s) := Int.mul_le_mul_of_nonneg_right ha2 (by omega)
      omega
  have e3 : (2 ^ 240 : Int) = 1099511627776 * 2 ^ 200 := by decide +kernel
  refine IntMulOk.of_bits (bits_of ?_ ?_) (bits_of ?_ ?_) <;> omega
end PartP6
end Mine

namespace Mine
section PartB26
open PySem PySem.W PySem.Calls PyProof.Rows
local macro_rules | `(tactic| walk_at "eval Name") => `(tactic| (k_here; k_dflt (refine' ldLoc ?k1 ?k2 ?_; (case k1 => first | k_asm | assumption); (case k2 => first | assumption | exact rfl); k_whole)))
local macro_rules | `(tactic| walk_at "eval Name") => `(tactic| (k_here; k_dflt (refine' ldCellB ?k1 ?k2 ?k3 ?k4 ?_; (case k1 => first | k_asm | assumption); (case k2 => exact rfl); (case k3 => assumption); (case k4 => assumption); k_whole)))
local macro_rules | `(tactic| walk_at "storeName") => `(tactic| ((with_reducible show wpAny _ _ (storeName (compEnvC _ _ _ _) _ _) _ _ _); k_dflt (refine' storeG ?F ?N ?_; (case F => k_asm); (case N => k_asm); k_whole); intro h' F' N'))
local macro_rules | `(tactic| walk_at "execs cons") => `(tactic| ((with_reducible refine wpAny_execs_cons ?_); (try dsimp only)))
local macro_rules | `(tactic| walk_at "binaryOp Add ref ref") => `(tactic| refine stopI ?_)
local macro_rules | `(tactic| walk_at "compareOp NotEq ref ref") => `(tactic| refine stopI ?_)
local macro_rules | `(tactic| walk_at "compareOp Eq ref ref") => `(tactic| refine stopI ?_)
local macro_rules | `(tactic| walk_at "forIn") => `(tactic| (k_dflt (first | refine wpAny_tests_one ?_ | refine wpAny_tests_nil ?_)))
local macro_rules | `(tactic| walk_at "subscriptTail") => `(tactic| ((with_reducible show wpAny _ _ (subscriptTail _ _ (Value.ref _) (Value.int _ _)) _ _ _); refine' item_list_intsR ?hl ?hi ?h0 ?h1 ?h2 ?_; (case hl => is_list); (case hi => assumption); (case h0 => omega); (case h1 => omega); (case h2 => omega); intro _))
local macro_rules | `(tactic| walk_at "call builtin:len") => `(tactic| ((with_reducible show wpAny _ _ (call (Value.builtin _) [Value.ref _]) _ _ _); refine' len_list (by is_list) ?z ?_; (case z => (simp only [List.size_toArray]; omega)); k_whole))
local macro_rules | `(tactic| walk_at "subscriptTail") => `(tactic| ((with_reducible show wpAny _ _ (subscriptTail _ _ (Value.str _ _) (Value.int _ _)) _ _ _); refine' strItem ?h0 ?h1 ?h2 ?_; (case h0 => omega); (case h1 => omega); (case h2 => assumption)))
local macro_rules | `(tactic| walk_at "binaryOp Add str str") => `(tactic| (k_dflt (refine addS (by first | decide | exact Nat.succ_ne_zero _) (by first | decide | exact Nat.succ_ne_zero _) (by first | decide | exact Nat.le_of_ble_eq_true rfl) ?_)))
local macro_rules | `(tactic| walk_at "call builtin:list.append") => `(tactic| refine stopI ?_)
local macro_rules | `(tactic| walk_at "exec For Name Call cons nil") => `(tactic| k_dflt (refine forS ?_))
local macro_rules | `(tactic| walk_at "exec For Name Name cons nil") => `(tactic| k_dflt (refine forS ?_))
local macro_rules | `(tactic| walk_at "pyIter ref") => `(tactic| refine stopI ?_)
local macro_rules | `(tactic| walk_at "call ref") => `(tactic| refine stopI ?_)
local macro_rules | `(tactic| walk_at "eval ListComp") => `(tactic| refine stopI ?_)
local macro_rules | `(tactic| walk_at "exec Assign cons ListComp") => `(tactic| refine stopI ?_)
local macro_rules | `(tactic| walk_at "call type:range") => `(tactic| (k_here; k_dflt (refine' rangeO ?F ?N ?_; (case F => k_asm); (case N => k_asm); k_whole); intro h' r' t' u' v' tk' l' O' R' F' N'))
theorem tt : PySem.Challenge.rw_ux0008_01.Holds := by
  refine Mine.hd ?_
  k_fill
  intro w s₀ s₁ mg mb G Y fa o pm cd doc dV kV ho hd hcd hD hmg hg args vals as hpre hlay hrd hwl hlo
  have KX := kIn_of Y
  have X := (Ground.X G).1
  have V := (Ground.X G).2
  refine Ground.open G ?_
  intro T B D TE TW
  try (refine guard_noD D (by decide +kernel) ?_; clear D)
  obtain ⟨_, _, M⟩ := bmod_of_top T
  have TA := at_of_top T
  try (obtain ⟨_, _, he, B0⟩ := based_of_top T rfl hmg ho hd; have he' : cd = _ := he; subst he'; clear he)
  clear hmg
  wrow_args hpre hlay hrd hwl hlo
  all_goals (
    first | refine callC_kw (enter_call ?_) | refine enter_call ?_ | refine callC_kw (enter_callW ?_) | refine enter_callW ?_ | w_how
    w_top on
    have K0 := below_caller (Top.heap T)
    w_call any ho hd hcd hD T F
    clear hd TA)
  clear TE TW B V X K0 M B0 hD
  rename IntsAre _ _ => hsc
  rename Heap.IsList _ _ _ => hls
  rename News _ _ _ _ => NC
  k_steps
  unfold Stop
  rename Fr _ _ _ _ => F1
  rename News _ _ _ _ => N1
  rename_i sc _ _ _ _ _ _ _ ls vsc _ _ _ _ _ hlen _ _ _ oc1 oc2 dc1 dc2 _ lf _ lf1 _ oc3 dc3
  have dc2' : oc2.data = .cell (some (.ref ls)) := dc2
  obtain ⟨vf, hlf, hfi⟩ : ∃ vf, Heap.IsList _ lf (List.toArray vf) ∧ IntsAre vf firstsP := ⟨_, N1.isList (.head _), .cons _ _ (.cons _ _ (.cons _ _ (.cons _ _ (.cons _ _ (.cons _ _ (.cons _ _ (.cons _ _ (.cons _ _ (.cons _ _ (.cons _ _ .nil))))))))))⟩
  refine compA F1 N1 ?_ (by with_unfolding_all rfl) (by decide) (by rfl) (by decide) (by intro _; rfl) (by with_unfolding_all rfl) (by rfl) (by rfl)
  k_steps
  unfold Stop
  rename IsRange _ _ _ _ _ _ _ _ => hR
  rename Fr _ _ _ _ => F2
  rename News _ _ _ _ => N2
  rename Old _ _ => O2
  rename _ ≤ _ => tk2
  have hsc2 := F2.lst hls
  have hlf2 := hlf.at fun o e => O2 _ o e
  have hcl1 := (N2 _ (.tail _ (.head _))).1
  have hcl2 := (N2 _ (.tail _ (.tail _ (.head _)))).1
  have hfl : firstsP.length = 11 := rfl
  refine compRange (n := 11) rfl hR (by decide) (by decide) O2 (T.nolimit.keeps F2.keep) rfl (Nat.le_trans (Nat.le_succ _) tk2) (fun i m ys => IntsAre ys.toList (drawsP sc i)) .nil ?_ ?_ ?_
  · intro i m ys hi hy
    have := hy.length
    rw [Array.length_toList, drawsP_len] at this
    omega
  · intro s' C D os' tk'
    rintro S hSG i v m ys k own s₂ hi hy ⟨tv, rfl⟩ S₁ F₁ N₁ a₁ b₁ o₁ t₁
    have hyl := hy.length
    rw [Array.length_toList, drawsP_len] at hyl
    have KXb := Frag.In.keeps KX F2.keep
    have Tb := T.keeps F2.keep
    k_steps
    all_goals
      rename Fr _ _ _ _ => FE
      rename News _ _ _ _ => NE
      refine ⟨⟨_, ys, k, own, FE, NE, a₁, b₁, S₁, by omega, ?_⟩, o₁, by assumption⟩
      rw [Array.toList_push]
      unfold drawsP
      refine IntsAre.append hy ?_
      first
        | (rw [drawP_in (by assumption)]; exact .cons _ _ .nil)
        | (rw [drawP_out (by assumption)]; exact .cons _ _ .nil)
  · rintro D m ys k s3 hy Z3 O3 hD hD0 os3 tk3 h4 tk4 ht4 F4 N4 A4
    clear N1 N2 F1 F2
    have hyl := hy.length
    rw [drawsP_len] at hyl
    k_steps
    unfold Stop
    have hds : (drawsP sc 11).length = 11 := drawsP_len sc 11
    have ht4' : 0 < tk4 := Nat.lt_of_lt_of_le (Nat.succ_pos _) ht4
    generalize drawsP sc 11 = ds at hy hds
    have hDl := N4.isList (items := ys) (a := D) (.head _)
    refine numbers_c (vs := ys.toList) (by simpa using hDl) hy hds (by show callerA.depth + 1 + 2 < _; decide) (Frag.In.keeps KX F4.keep) (T.keeps F4.keep) ?_
    intro D0 ns0 k0 s5 K5 hD50 hD5 hn5
    have F5 := Fr.old F4 K5.old
    have N5 := News.join N4 F4 K5.old hD50 hD5
    clear F4 N4
    have hnl := numbers_len ds
    have hn5l := hn5.length
    have ht5 : tk4 ≤ s5.toks := K5.toks
    have hos5 : s5.os = s3.os := K5.os
    have hgs5 : s5.gens = s3.gens := K5.gens
    k_steps
    unfold Stop
    rename IsRange _ _ _ _ _ _ _ _ => hR3
    rename Fr _ _ _ _ => F6
    rename News _ _ _ _ => N6
    rename_i _ _ Ls _ hlt1 _ Ln _ hlt2 _ _ _ _ r3 _ _ _ tk6 htk6 O6
    have N6' := news_l (a := [(Ln, lstO #[] 0), (Ls, lstO #[] 0), (D0, lstO ns0 k0), (D, lstO ys k)]) N6
    have dLL : Ls ≠ Ln := Nat.ne_of_lt hlt2.1
    have dL0 : D0 ≠ Ln := Nat.ne_of_lt hlt2.2.1
    have dS0 : D0 ≠ Ls := Nat.ne_of_lt hlt1.1
    have dLD : D ≠ Ln := Nat.ne_of_lt hlt2.2.2.1
    have dSD : D ≠ Ls := Nat.ne_of_lt hlt1.2.1
    clear F5 N5 N6
    obtain ⟨n, hn⟩ : ∃ n : Nat, n = (sizeP ds).toNat := ⟨_, rfl⟩
    refine forRangeT (base := s₁.heap) (n := n) rfl hR3 ?_ ?_ T.nolimit (fun i m news tk => ∃ vs ks vn kn, m (Str.ofString "signs") = some (.ref Ls) ∧ m (Str.ofString "names") = some (.ref Ln) ∧ m (Str.ofString "draws") = some (.ref D) ∧ m (Str.ofString "numbers") = some (.ref D0) ∧
      news = [(Ln, lstO vn kn), (Ls, lstO vs ks), (D0, lstO ns0 k0), (D, lstO ys k)] ∧ StrsAre vs.toList (signsP ds i) ∧ StrsAre vn.toList (namesP ds i) ∧ (∀ x t, Value.str x t ∈ vs.toList → t ≠ 0 ∧ t < tk)) ?_ F6 N6' ?_ ?_ ?_
    · exact small_one (by decide) (by decide) (by omega) (by omega)
    · rw [rangeSize_one]; split <;> omega
    · rintro i m news a b hab ⟨vs, ks, vn, kn, h1, h2, h3, h4, h5, h6, h7, h8⟩
      exact ⟨vs, ks, vn, kn, h1, h2, h3, h4, h5, h6, h7, fun x t hx => ⟨(h8 x t hx).1, Nat.lt_of_lt_of_le (h8 x t hx).2 hab⟩⟩
    · exact ⟨_, _, _, _, rfl, rfl, rfl, rfl, rfl, .nil, .nil, fun _ _ h => nomatch h⟩
    · rintro S hSG i v m news own s6 hi ⟨vs, ks, vn, kn, h1, h2, h3, h4, rfl, h6, h7, hj8⟩ ⟨tv, rfl⟩ S₁ F₁ N₁ a₁ o₁ t₁
      have hc5 := letter_at (show i < 5 by omega)
      clear F6 N6'
      have hDD := N₁.isList (items := ys) (a := D) (.tail _ (.tail _ (.tail _ (.head _))))
      k_steps
      all_goals
        unfold Stop
        rename Fr _ _ _ _ => F7
        rename News _ _ _ _ => N7
        refine appendA F7 (news_swap N7) (apart_4 (Ne.symm dLL) dS0 dSD fun q hq => a₁ _ (.tail _ (.head _)) q hq) ?_ ?_
        · have := h6.length
          rw [Array.length_toList, signsP_len] at this
          show _ ≤ 16777216
          omega
        intro h8 ks' F8 N8 A8
        have N9 := news_swap N8
        clear F7 N7 N8
        k_steps
      all_goals
        unfold Stop
        refine appendA F8 N9 (apart_4 dLL dL0 dLD fun q hq => a₁ _ (.head _) q hq) ?_ ?_
        · have := h7.length
          rw [Array.length_toList, namesP_len] at this
          show _ ≤ 16777216
          omega
        intro h9 kn' F10 N10 A10
        clear F8 N9
        k_steps
        rename s6.toks ≤ _ => htE
        refine ⟨⟨_, [(Ln, _), (Ls, _), (D0, lstO ns0 k0), (D, lstO ys k)], own, F10, N10, ?_, S₁, vs.push _, ks', vn.push _, kn', h1, h2, h3, h4, rfl, ?_, ?_, ?_⟩, o₁, Nat.le_trans t₁ htE⟩
        · intro p hp q hq
          rcases List.mem_cons.mp hp with rfl | hp
          · exact a₁ _ (.head _) q hq
          · rcases List.mem_cons.mp hp with rfl | hp
            · exact a₁ _ (.tail _ (.head _)) q hq
            · exact a₁ p (.tail _ (.tail _ hp)) q hq
        · rw [Array.toList_push]
          refine StrsAre.append' h6 ?_
          first
            | (rw [show signP ds i = Str.ofString "\\" ++ letterP i from if_pos (by assumption)]; exact .cons _ _ .nil)
            | (rw [show signP ds i = letterP i from if_neg (by assumption)]; exact .cons _ _ .nil)
        · rw [Array.toList_push]
          refine StrsAre.append' h7 ?_
          have e1 : signP ds i = Str.ofString "\\" ++ letterP i ∨ signP ds i = letterP i := by
            first
              | exact .inl (if_pos (by assumption))
              | exact .inr (if_neg (by assumption))
          first
            | rw [show nameP ds i = Str.ofString "\\\\" ++ signP ds i from if_pos (by assumption)]
            | rw [show nameP ds i = signP ds i ++ Str.ofString "\\\"" from (if_neg (by assumption)).trans (if_pos (by assumption))]
            | rw [show nameP ds i = signP ds i from (if_neg (by assumption)).trans (if_neg (by assumption))]
          first
            | (rw [show signP ds i = Str.ofString "\\" ++ letterP i from if_pos (by assumption)]; exact .cons _ _ .nil)
            | (rw [show signP ds i = letterP i from if_neg (by assumption)]; exact .cons _ _ .nil)
        · intro x t hx
          rw [Array.toList_push] at hx
          rcases List.mem_append.mp hx with hx | hx
          · exact ⟨(hj8 x t hx).1, Nat.lt_of_lt_of_le (hj8 x t hx).2 htE⟩
          · cases List.mem_singleton.mp hx
            dsimp only at htE ⊢
            constructor
            · exact Nat.succ_ne_zero _
            · exact Nat.lt_of_sub_pos (by (show (0 : Nat) < _); omega)
    · rintro m news s7 ⟨vs, ks, vn, kn, h1, h2, h3, h4, rfl, h6, h7, hj8⟩ Z₁ F₁ N₁ o₁ t₁
      clear F6 N6'
      have hgE : s7.gens = #[] := Z₁.trans (hgs5.trans (Z3.trans hg))
      have hosE : s7.os = s₁.os := o₁.trans (hos5.trans os3)
      have N1 : News s₁.heap _ s7.heap [(Ln, lstO vn kn), (Ls, lstO vs ks), (D0, lstO ns0 k0)] := news_l (b := [(D, lstO ys k)]) N₁
      clear N₁
      k_steps
      unfold Stop
      rename Fr _ _ _ _ => F6
      rename News _ _ _ _ => N6
      have hsE : vs.size = n := by rw [← Array.length_toList, h6.length, signsP_len]
      have hnE : vn.size = n := by rw [← Array.length_toList, h7.length, namesP_len]
      refine rows_c (n := (numbersP ds).length) (by omega) (by omega) (by show callerA.depth + 1 + 2 < _; decide) (Frag.In.keeps KX F6.keep) (T.keeps F6.keep) ?_
      intro D1 rs k1 s8 K8 hD81 hD8 hrs
      have F8 := Fr.old F6 K8.old
      have N8 := News.join N6 F6 K8.old hD81 hD8
      clear F6
      have hgs8 : s8.gens = s7.gens := K8.gens
      have hos8 : s8.os = s7.os := K8.os
      have ht8 : s7.toks ≤ s8.toks := by have := K8.toks; dsimp only at this; omega
      have hns : (numbersP ds).length = n := by rw [hnl.1, hn]
      k_steps
      unfold Stop
      have hrow : ∀ x ∈ rowsP (numbersP ds).length, RowOk (numbersP ds).length x (namesP ds n) (signsP ds n ++ signsP ds n) := by
        rw [hns]
        exact fun x hx => row_ok (rows_ok (by omega) (by omega) x hx) (by omega)
      have hmul : ∀ (p k : Int), IntMulOk p ((numbersP ds).getD k.toNat 0) := numbers_mul ds
      have ap8 : Apart [(D1, lstO rs k1)] [(Ln, lstO vn kn), (Ls, lstO vs ks), (D0, lstO ns0 k0)] := by
        intro p hp q hq e
        rw [List.mem_singleton.mp hp] at e
        have := (N6 q hq).1
        rw [← e] at this
        have h0 := hD81
        rw [this] at h0; cases h0
      refine forListK (base := s₁.heap) rfl AllBare (by rw [hgs8, hgE]; exact AllBare.empty) (fun i m news => ∃ zw zb tw tb, m (Str.ofString "whole") = some (.int zw tw) ∧ zw = (sumsP (numbersP ds) (((rowsP (numbersP ds).length).take i).map fun x => leftP x (namesP ds n) (signsP ds n ++ signsP ds n))).1 ∧
        m (Str.ofString "behind") = some (.int zb tb) ∧ zb = (sumsP (numbersP ds) (((rowsP (numbersP ds).length).take i).map fun x => leftP x (namesP ds n) (signsP ds n ++ signsP ds n))).2 ∧
        m (Str.ofString "names") = some (.ref Ln) ∧ m (Str.ofString "signs") = some (.ref Ls) ∧ m (Str.ofString "numbers") = some (.ref D0) ∧ news = [(Ln, lstO vn kn), (Ls, lstO vs ks), (D0, lstO ns0 k0)]) F8 N8 ap8 ?_ ?_ ?_
      · exact ⟨_, _, _, _, rfl, rfl, rfl, rfl, h2, h1, h4, rfl⟩
      · rintro I i v m news k2 oi s9 hi ⟨_, _, tw, tb, g1, rfl, g2, rfl, g3, g4, g5, rfl⟩ hit F₁ N₁ a₁ b₁ o₁ gB t₁
        have hiy : rs.toList[i]? = some v := by rw [Array.getElem?_toList]; exact hit
        obtain ⟨xx, tx, rfl, hxi⟩ := strs_item hrs hiy
        have hR := hrow xx (List.mem_of_getElem? hxi)
        clear N6
        k_steps
        unfold Stop
        rename Fr _ _ _ _ => F10
        rename News _ _ _ _ => N10
        have hLs10 := N10.isList (items := vs) (a := Ls) (.tail _ (.tail _ (.head _)))
        refine add_arrays F10 N10 hLs10 hLs10 ?_ (by show _ ≤ 16777216; omega)
        intro h11 F11 N11
        clear F10 N10
        k_steps
        unfold Stop
        have hLn11 := N11.isList (items := vn) (a := Ln) (.tail _ (.tail _ (.head _)))
        have hsum := N11.isList (.head _)
        refine left_c (vs1 := vn.toList) (vs2 := vs.toList ++ vs.toList) (nms := namesP ds n) (sgs := signsP ds n ++ signsP ds n) (by simpa using hLn11) h7 hsum (StrsAre.append' h6 h6) (by rw [namesP_len]; omega) (by rw [namesP_len]; have := hR.len; omega) (namesP_small ds n)
          hR.pos hR.small hR.last (Nat.succ_pos _) (fun x t hx => ?_) (by decide) (by show callerA.depth + 1 + 8 < _; decide) (Frag.In.keeps KX F11.keep) (T.keeps F11.keep) ?_
        · have hx' : Value.str x t ∈ vs.toList := by rcases List.mem_append.mp hx with h | h <;> exact h
          refine ⟨(hj8 x t hx').1, Nat.lt_of_lt_of_le (hj8 x t hx').2 ?_⟩
          exact Nat.le_trans ht8 (Nat.le_trans (Nat.le_trans (by first | exact Nat.le_refl _ | assumption) t₁) (Nat.le_succ _))
        intro D2 ys2 k3 s12 K12 hD2n hD2 hI2 hsz2
        have F12 := Fr.old F11 K12.old
        have N12 := News.join N11 F11 K12.old hD2n hD2
        have hos12 : s12.os = s9.os := K12.os
        have hb12 : AllBare s12.gens := K12.bare gB
        have ap12 : Apart [(D2, lstO ys2 k3)] _ := fun p hp q hq e => by
          rw [List.mem_singleton.mp hp] at e
          have := (N11 q hq).1
          rw [← e] at this
          have h0 := hD2n
          rw [this] at h0; cases h0
        clear F11 N11
        k_steps
        unfold Stop
        rename Fr _ _ _ _ => F13
        rename News _ _ _ _ => N13
        have hns0 : ns0.toList.length = n := by rw [hn5l, hns]
        refine forListK (base := s₁.heap) rfl AllBare hb12 (fun j m news => ∃ z tp, m (Str.ofString "product") = some (.int z tp) ∧ z = prodP (numbersP ds) ((leftP xx (namesP ds n) (signsP ds n ++ signsP ds n)).take j) ∧
          m (Str.ofString "whole") = some (.int (sumsP (numbersP ds) (((rowsP (numbersP ds).length).take i).map fun x => leftP x (namesP ds n) (signsP ds n ++ signsP ds n))).1 tw) ∧
          m (Str.ofString "behind") = some (.int (sumsP (numbersP ds) (((rowsP (numbersP ds).length).take i).map fun x => leftP x (namesP ds n) (signsP ds n ++ signsP ds n))).2 tb) ∧
          m (Str.ofString "names") = some (.ref Ln) ∧ m (Str.ofString "signs") = some (.ref Ls) ∧ m (Str.ofString "numbers") = some (.ref D0) ∧ m (Str.ofString "left") = some (.ref D2) ∧
          news = [(D1, lstO rs k2)] ++ ([(Ln, lstO vn kn), (Ls, lstO vs ks), (D0, lstO ns0 k0)] ++ [(I, oi)])) F13 (fun p hp => N13 p (by rcases List.mem_cons.mp hp with rfl | hp; exact .head _; exact .tail _ (.tail _ hp))) (fun p hp q hq => ap12 p hp q (.tail _ hq)) ?_ ?_ ?_
        · exact ⟨_, _, rfl, rfl, g1, g2, g3, g4, g5, rfl, rfl⟩
        · rintro I2 j v m2 news2 k4 oi2 s14 hj ⟨_, tp, e1, rfl, e2, e3, e4, e5, e6, e7, rfl⟩ hit2 F₂ N₂ a₂ b₂ o₂ gB2 t₂
          have hjy : ys2.toList[j]? = some v := by rw [Array.getElem?_toList]; exact hit2
          obtain ⟨kk, tk2, rfl, hkk⟩ := ints_item hI2 hjy
          rw [List.getElem?_map] at hkk
          obtain ⟨kn2, hkn, rfl⟩ := Option.map_eq_some_iff.mp hkk
          have hkl := hR.lt kn2 (List.mem_of_getElem? hkn)
          have hD0l := N₂.isList (items := ns0) (a := D0) (.tail _ (.tail _ (.tail _ (.tail _ (.head _)))))
          k_steps
          · unfold Stop
            rename Fr _ _ _ _ => F15
            rename News _ _ _ _ => N15
            rename 0 < (kn2 : Int) => hpos
            refine mul_c (hmul _ _) (by show callerA.depth + 1 + 1 < _; decide) (Frag.In.keeps KX F15.keep) (T.keeps F15.keep) ?_
            intro t16 s16 K16
            have F16 := Fr.old F15 K16.old
            have N16 := News.old N15 K16.old
            clear F15 N15
            have hos16 : s16.os = s14.os := K16.os
            have hgs16 : s16.gens = s14.gens := K16.gens
            k_steps
            rename Fr _ _ _ _ => FE
            rename News _ _ _ _ => NE
            refine HeldK.mk ?_
            refine ⟨_, _, k4, FE, NE, a₂, b₂, ⟨_, _, rfl, ?_, e2, e3, e4, e5, e6, e7, rfl⟩, hos16.trans o₂, by (show AllBare s16.gens); rw [hgs16]; exact gB2⟩
            rw [prod_next hkn, prodStep_pos hpos]
          · rename Fr _ _ _ _ => FE
            rename News _ _ _ _ => NE
            rename ¬ 0 < (kn2 : Int) => hpos
            refine HeldK.mk ?_
            refine ⟨_, _, k4, FE, NE, a₂, b₂, ⟨_, tp, e1, ?_, e2, e3, e4, e5, e6, e7, rfl⟩, o₂, gB2⟩
            rw [prod_next hkn, prodStep_zero hpos]
        · rintro m2 news2 k4 s17 ⟨_, tp, e1, rfl, e2, e3, e4, e5, e6, e7, rfl⟩ F₂ N₂ a₂ gB2 o₂ t₂
          have hyl2 : ys2.size = (leftP xx (namesP ds n) (signsP ds n ++ signsP ds n)).length := by rw [← Array.length_toList, hI2.length, List.length_map]
          rw [hyl2, List.take_length] at e1
          k_steps
          unfold Stop
          have hD2l := N₂.isList (items := ys2) (a := D2) (.head _)
          refine contains_i (vs := ys2.toList) (by simpa using hD2l) hI2 (by show callerA.depth + 1 + 1 < _; decide) (Frag.In.keeps KX F₂.keep) (T.keeps F₂.keep) ?_
          intro s18 K18
          have F18 := Fr.old F₂ K18.old
          have N18 := News.old N₂ K18.old
          clear F₂ N₂
          have hos18 : s18.os = s17.os := K18.os
          have hgs18 : s18.gens = s17.gens := K18.gens
          have hD0l := N18.isList (items := ns0) (a := D0) (.tail _ (.tail _ (.tail _ (.tail _ (.head _)))))
          have osE : s17.os = s8.os := o₂.trans (hos12.trans o₁)
          have key := sums_next (ns := numbersP ds) (f := fun x => leftP x (namesP ds n) (signsP ds n ++ signsP ds n)) hxi
          k_steps
          · unfold Stop
            rename (List.any _ _) = true => hz
            refine add_c (by show callerA.depth + 1 + 1 < _; decide) (Frag.In.keeps KX F18.keep) (T.keeps F18.keep) ?_
            intro t19 s19 K19
            have F19 := Fr.old F18 K19.old
            have N19 := News.old N18 K19.old
            clear F18 N18
            have hos19 : s19.os = s18.os := K19.os
            have hgs19 : s19.gens = s18.gens := K19.gens
            k_steps
            unfold Stop
            rename Fr _ _ _ _ => F20
            rename News _ _ _ _ => N20
            refine mul_c (hmul _ _) (by show callerA.depth + 1 + 1 < _; decide) (Frag.In.keeps KX F20.keep) (T.keeps F20.keep) ?_
            intro t21 s21 K21
            have F21 := Fr.old F20 K21.old
            have N21 := News.old N20 K21.old
            clear F20 N20
            have hos21 : s21.os = s19.os := K21.os
            have hgs21 : s21.gens = s19.gens := K21.gens
            k_steps
            unfold Stop
            rename Fr _ _ _ _ => F22
            rename News _ _ _ _ => N22
            refine add_c (by show callerA.depth + 1 + 1 < _; decide) (Frag.In.keeps KX F22.keep) (T.keeps F22.keep) ?_
            intro t23 s23 K23
            have F23 := Fr.old F22 K23.old
            have N23 := News.old N22 K23.old
            clear F22 N22
            have hos23 : s23.os = s21.os := K23.os
            have hgs23 : s23.gens = s21.gens := K23.gens
            k_steps
            rename Fr _ _ _ _ => FE
            rename News _ _ _ _ => NE
            try dsimp only at key
            refine HeldK.mk ?_
            refine ⟨_, [(Ln, lstO vn kn), (Ls, lstO vs ks), (D0, lstO ns0 k0)], k2, FE, fun p hp => NE p (.tail _ hp), a₁, b₁, ⟨_, _, _, _, rfl, ?_, rfl, ?_, e4, e5, e6, rfl⟩, hos23.trans (hos21.trans (hos19.trans (hos18.trans osE))), by (show AllBare s23.gens); rw [hgs23, hgs21, hgs19, hgs18]; exact gB2⟩
            · rw [key]; unfold rowStep; rw [if_pos hz]
            · rw [key]; unfold rowStep; rw [if_pos hz]
          · unfold Stop
            rename (List.any _ _) = false => hz
            refine add_c (by show callerA.depth + 1 + 1 < _; decide) (Frag.In.keeps KX F18.keep) (T.keeps F18.keep) ?_
            intro t23 s23 K23
            have F23 := Fr.old F18 K23.old
            have N23 := News.old N18 K23.old
            clear F18 N18
            have hos23 : s23.os = s18.os := K23.os
            have hgs23 : s23.gens = s18.gens := K23.gens
            k_steps
            rename Fr _ _ _ _ => FE
            rename News _ _ _ _ => NE
            try dsimp only at key
            refine HeldK.mk ?_
            refine ⟨_, [(Ln, lstO vn kn), (Ls, lstO vs ks), (D0, lstO ns0 k0)], k2, FE, fun p hp => NE p (.tail _ hp), a₁, b₁, ⟨_, _, _, _, rfl, ?_, e3, ?_, e4, e5, e6, rfl⟩, hos23.trans (hos18.trans osE), by (show AllBare s23.gens); rw [hgs23, hgs18]; exact gB2⟩
            · rw [key]; unfold rowStep; rw [if_neg (by rw [hz]; exact Bool.false_ne_true)]
            · rw [key]; unfold rowStep; rw [if_neg (by rw [hz]; exact Bool.false_ne_true)]
      · rintro m news k2 s24 ⟨_, _, tw, tb, g1, rfl, g2, rfl, g3, g4, g5, rfl⟩ F₁ N₁ a₁ gB o₁ t₁
        have hrl : rs.size = (rowsP (numbersP ds).length).length := by rw [← Array.length_toList, hrs.length]
        rw [hrl, List.take_length] at g1 g2
        generalize hW : (sumsP (numbersP ds) ((rowsP (numbersP ds).length).map fun x => leftP x (namesP ds n) (signsP ds n ++ signsP ds n))) = WB at g1 g2
        obtain ⟨W, B⟩ := WB
        dsimp only at g1 g2
        obtain ⟨hE1, hE2, hE3, hE4, hWB⟩ := all_sums hns hW
        have hnl5 : (numbersP ds).length ≤ 100 := by omega
        k_steps
        unfold Stop
        refine euclid_c hE1 hnl5 (by show callerA.depth + 1 + 2 < _; decide) (Frag.In.keeps KX F₁.keep) (T.keeps F₁.keep) ?_
        intro Dt ts kt s25 K25 hDt0 hDt hti
        have F25 := Fr.old F₁ K25.old
        have N25 := News.join N₁ F₁ K25.old hDt0 hDt
        clear F₁ N₁
        have hos25 : s25.os = s24.os := K25.os
        have hgs25 : s25.gens = s24.gens := K25.gens
        k_steps
        unfold Stop
        rename Fr _ _ _ _ => FA26
        rename News _ _ _ _ => NA26
        refine neg_c (by show callerA.depth + 1 + 1 < _; decide) (Frag.In.keeps KX FA26.keep) (T.keeps FA26.keep) ?_
        intro t26 s26 K26
        have F26 := Fr.old FA26 K26.old
        have N26 := News.old NA26 K26.old
        clear FA26 NA26
        have hos26 : s26.os = s25.os := K26.os
        have hgs26 : s26.gens = s25.gens := K26.gens
        k_steps
        unfold Stop
        rename Fr _ _ _ _ => FA27
        rename News _ _ _ _ => NA27
        refine neg_c (by show callerA.depth + 1 + 1 < _; decide) (Frag.In.keeps KX FA27.keep) (T.keeps FA27.keep) ?_
        intro t27 s27 K27
        have F27 := Fr.old FA27 K27.old
        have N27 := News.old NA27 K27.old
        clear FA27 NA27
        have hos27 : s27.os = s26.os := K27.os
        have hgs27 : s27.gens = s26.gens := K27.gens
        k_steps
        unfold Stop
        rename Fr _ _ _ _ => FA28
        rename News _ _ _ _ => NA28
        refine euclid_c hE2 hnl5 (by show callerA.depth + 1 + 2 < _; decide) (Frag.In.keeps KX FA28.keep) (T.keeps FA28.keep) ?_
        intro Dt28 ts28 kt28 s28 K28 hDa28 hDb28 hti28
        have F28 := Fr.old FA28 K28.old
        have N28 := News.join NA28 FA28 K28.old hDa28 hDb28
        clear FA28 NA28
        have hos28 : s28.os = s27.os := K28.os
        have hgs28 : s28.gens = s27.gens := K28.gens
        k_steps
        unfold Stop
        rename Fr _ _ _ _ => FA29
        rename News _ _ _ _ => NA29
        refine mul_c hWB (by show callerA.depth + 1 + 1 < _; decide) (Frag.In.keeps KX FA29.keep) (T.keeps FA29.keep) ?_
        intro t29 s29 K29
        have F29 := Fr.old FA29 K29.old
        have N29 := News.old NA29 K29.old
        clear FA29 NA29
        have hos29 : s29.os = s28.os := K29.os
        have hgs29 : s29.gens = s28.gens := K29.gens
        k_steps
        unfold Stop
        rename Fr _ _ _ _ => FA30
        rename News _ _ _ _ => NA30
        refine euclid_c hE3 (Nat.le_of_ble_eq_true rfl) (by show callerA.depth + 1 + 2 < _; decide) (Frag.In.keeps KX FA30.keep) (T.keeps FA30.keep) ?_
        intro Dt30 ts30 kt30 s30 K30 hDa30 hDb30 hti30
        have F30 := Fr.old FA30 K30.old
        have N30 := News.join NA30 FA30 K30.old hDa30 hDb30
        clear FA30 NA30
        have hos30 : s30.os = s29.os := K30.os
        have hgs30 : s30.gens = s29.gens := K30.gens
        k_steps
        unfold Stop
        rename Fr _ _ _ _ => FA31
        rename News _ _ _ _ => NA31
        refine mul_c hWB (by show callerA.depth + 1 + 1 < _; decide) (Frag.In.keeps KX FA31.keep) (T.keeps FA31.keep) ?_
        intro t31 s31 K31
        have F31 := Fr.old FA31 K31.old
        have N31 := News.old NA31 K31.old
        clear FA31 NA31
        have hos31 : s31.os = s30.os := K31.os
        have hgs31 : s31.gens = s30.gens := K31.gens
        k_steps
        unfold Stop
        rename Fr _ _ _ _ => FA32
        rename News _ _ _ _ => NA32
        refine neg_c (by show callerA.depth + 1 + 1 < _; decide) (Frag.In.keeps KX FA32.keep) (T.keeps FA32.keep) ?_
        intro t32 s32 K32
        have F32 := Fr.old FA32 K32.old
        have N32 := News.old NA32 K32.old
        clear FA32 NA32
        have hos32 : s32.os = s31.os := K32.os
        have hgs32 : s32.gens = s31.gens := K32.gens
        k_steps
        unfold Stop
        rename Fr _ _ _ _ => FA33
        rename News _ _ _ _ => NA33
        refine euclid_c hE4 (Nat.le_of_ble_eq_true rfl) (by show callerA.depth + 1 + 2 < _; decide) (Frag.In.keeps KX FA33.keep) (T.keeps FA33.keep) ?_
        intro Dt33 ts33 kt33 s33 K33 hDa33 hDb33 hti33
        have F33 := Fr.old FA33 K33.old
        have N33 := News.join NA33 FA33 K33.old hDa33 hDb33
        clear FA33 NA33
        have hos33 : s33.os = s32.os := K33.os
        have hgs33 : s33.gens = s32.gens := K33.gens
        k_steps
        unfold Stop
        rename Fr _ _ _ _ => F34
        rename News _ _ _ _ => N34
        refine add_arrays_ints F34 N34 (N34.isList (items := ts30) (a := Dt30) (.tail _ (.head _))) (N34.isList (items := ts33) (a := Dt33) (.head _)) hti30 hti33 ?_ (Nat.le_of_ble_eq_true rfl)
        intro h34 F35 N35 hi35
        clear F34 N34
        k_steps
        unfold Stop
        rename Fr _ _ _ _ => F36
        rename News _ _ _ _ => N36
        have hzt := hti.length
        have hz28 := hti28.length
        have hz35 := hi35.length
        rw [Array.length_toList] at hzt hz28
        simp only [List.length_append, List.length_singleton] at hzt hz28
        refine compE F36 N36 ?_ (by with_unfolding_all rfl) (by decide) (by rfl) (by decide) (by intro _; rfl)
        k_steps
        unfold Stop
        refine add_O (N36.isList (items := ts) (a := Dt) (by first | exact .tail _ (.tail _ (.tail _ (.tail _ (.head _)))) | news_mem)) (N36.isList (items := ts28) (a := Dt28) (by first | exact .tail _ (.tail _ (.tail _ (.head _))) | news_mem)) hti hti28 ?_ ?_
        · show _ ≤ 16777216
          omega
        intro h37 D37 x37 O37 l37 i37
        have F37 := Fr.old F36 O37
        have N37 := News.old N36 O37
        have z37 := i37.length
        rw [Array.length_toList] at z37
        clear F36 N36
        simp only [List.length_append, List.length_singleton] at z37
        k_steps
        unfold Stop
        refine add_O l37 (N37.isList (.head _)) i37 (by simpa using hi35) ?_ ?_
        · have e4 : ((ts30.toList ++ ts33.toList).toArray).size = 4 := by rw [List.size_toArray]; exact hz35
          show _ ≤ 16777216
          rw [e4]
          omega
        intro h38 D38 x38 O38 l38 i38
        have F38 := Fr.old F37 O38
        have N38 := News.old N37 O38
        have z38 := i38.length
        rw [Array.length_toList] at z38
        simp only [List.length_append, List.length_singleton] at z38
        clear F37 N37
        try unfold Stop
        refine compList rfl l38 (fun b o e => O38 b o (O37 b o e)) (T.nolimit.keeps F38.keep) rfl (Nat.le_refl _) (fun i m ys => ys.size = 0) rfl ?_ ?_ ?_
        · intro i m ys _ hy
          omega
        · intro s' C D9 os' tk'
          rintro S hSG i v m ys k own s39 hi hy hit S₁ F₁ N₁ a₁ b₁ o₁ t₁
          have hjy : x38.toList[i]? = some v := by rw [Array.getElem?_toList]; exact hit
          obtain ⟨kk, tk2, rfl, hkk⟩ := ints_item i38 hjy
          have KXb := Frag.In.keeps KX F38.keep
          have Tb := T.keeps F38.keep
          k_steps
          rename Fr _ _ _ _ => FE
          rename News _ _ _ _ => NE
          exact ⟨⟨_, ys, k, own, FE, NE, a₁, b₁, S₁, hy⟩, o₁, by assumption⟩
        · rintro D9 m9 ys9 k9 s40 hy9 Z9 O9 hD9 hD90 os9 tk9 F9 N9 A9
          have hy9' : ys9 = #[] := Array.eq_empty_of_size_eq_zero hy9
          subst hy9'
          clear F38 N38
          k_steps
          unfold Stop
          refine' ne_dataH (a := .ref _) ?ra ?rb ?hc ?hd ?hu ?_
          case ra => ke_read
          case rb => ke_read
          case hc => ke_shaped
          case hd => ke_shaped
          case hu => ke_room
          ke_norm
          k_steps
          unfold Stop
          rename Fr _ _ _ _ => F41
          rename News _ _ _ _ => N41
          simp only [List.cons_append, List.nil_append] at N41
          refine add_arrays_ints F41 N41 (N41.isList (items := ns0) (a := D0) (.tail _ (.tail _ (.tail _ (.tail _ (.tail _ (.tail _ (.tail _ (.tail _ (.tail _ (.tail _ (.tail _ (.head _))))))))))))) (N41.isList (.head _)) hn5 (.cons _ _ .nil) ?_ ?_
          case refine_2 => (show _ ≤ 16777216; simp only [List.length_singleton]; omega)
          intro h42 F42 N42 hi42
          clear F41 N41
          k_steps
          unfold Stop
          rename Fr _ _ _ _ => F43
          rename News _ _ _ _ => N43
          refine eq_intsK (vs := ts.toList) (by simpa using N43.isList (items := ts) (a := Dt) (.tail _ (.tail _ (.tail _ (.tail _ (.tail _ (.tail _ (.tail _ (.tail _ (.head _)))))))))) hti (N43.isList (.head _)) hi42 (by ke_room) ?_
          rw [decide_eq_true rfl]
          k_steps
          unfold Stop
          rename Fr _ _ _ _ => F44
          rename News _ _ _ _ => N44
          refine add_arrays_ints F44 N44 (N44.isList (items := ns0) (a := D0) (.tail _ (.tail _ (.tail _ (.tail _ (.tail _ (.tail _ (.tail _ (.tail _ (.tail _ (.tail _ (.tail _ (.tail _ (.tail _ (.head _))))))))))))))) (N44.isList (.head _)) hn5 (.cons _ _ .nil) ?_ ?_
          case refine_2 => (show _ ≤ 16777216; simp only [List.length_singleton]; omega)
          intro h45 F45 N45 hi45
          clear F44 N44
          k_steps
          unfold Stop
          rename Fr _ _ _ _ => F46
          rename News _ _ _ _ => N46
          refine eq_intsK (vs := ts28.toList) (by simpa using N46.isList (items := ts28) (a := Dt28) (.tail _ (.tail _ (.tail _ (.tail _ (.tail _ (.tail _ (.tail _ (.tail _ (.tail _ (.head _))))))))))) hti28 (N46.isList (.head _)) hi45 (by ke_room) ?_
          rw [decide_eq_true rfl]
          k_steps
          unfold Stop
          rename Fr _ _ _ _ => F47
          rename News _ _ _ _ => N47
          refine neg_c (by show callerA.depth + 1 + 1 < _; decide) (Frag.In.keeps KX F47.keep) (T.keeps F47.keep) ?_
          intro t48 s48 K48
          have F48 := Fr.old F47 K48.old
          have N48 := News.old N47 K48.old
          clear F47 N47
          have hos48 : s48.os = s40.os := K48.os
          have hgs48 : s48.gens = s40.gens := K48.gens
          k_steps
          unfold Stop
          rename Fr _ _ _ _ => F49
          rename News _ _ _ _ => N49
          refine neg_c (by show callerA.depth + 1 + 1 < _; decide) (Frag.In.keeps KX F49.keep) (T.keeps F49.keep) ?_
          intro t50 s50 K50
          have F50 := Fr.old F49 K50.old
          have N50 := News.old N49 K50.old
          clear F49 N49
          have hos50 : s50.os = s48.os := K50.os
          have hgs50 : s50.gens = s48.gens := K50.gens
          k_steps
          unfold Stop
          rename Fr _ _ _ _ => F51
          rename News _ _ _ _ => N51
          refine eq_intsK (vs := ts30.toList ++ ts33.toList) (N51.isList (.tail _ (.tail _ (.tail _ (.tail _ (.tail _ (.tail _ (.tail _ (.head _))))))))) hi35 (N51.isList (.head _)) (.cons _ _ (.cons _ _ (.cons _ _ (.cons _ _ .nil)))) (by ke_room) ?_
          rw [show decide ([W] ++ [B] ++ ([-W] ++ [-B]) = [W, B, -W, -B]) = true from decide_eq_true rfl]
          rename Fr _ _ _ _ => FZ
          have hosZ : s50.os = s₁.os := by
            rw [hos50, hos48, os9]
            show s33.os = s₁.os
            rw [hos33, hos32, hos31, hos30, hos29, hos28, hos27, hos26, hos25, o₁, hos8, hosE]
          have hgsZ : AllBare s50.gens := by
            rw [hgs50, hgs48, Z9]
            show AllBare s33.gens
            rw [hgs33, hgs32, hgs31, hgs30, hgs29, hgs28, hgs27, hgs26, hgs25]
            exact gB
          refine ⟨.inl ⟨_, .bool true, [], rfl, fun _ => rfl, ReadsW.bool true, ?_, fun _ => ⟨List.nodup_nil, fun _ hm => nomatch hm⟩⟩, .of_keep FZ.keep, hosZ, hgsZ⟩
          exact post_true sc
end PartB26
end Mine

theorem PySem.Challenge.cw_ux0008_01_holds : PySem.Challenge.rw_ux0008_01.Holds :=
  Mine.tt
