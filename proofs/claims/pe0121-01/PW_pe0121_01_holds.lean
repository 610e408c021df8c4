import PyProof.Rows.All
import Wide.All
import OpenK.AllK
import Wide.FinOn
import Lean
import PySem.Challenge.RW_pe0121_01
open PySem PySem.W PyProof.Rows
set_option Elab.async false
set_option maxRecDepth 100000
set_option maxHeartbeats 8000000
set_option compiler.extract_closed false
set_option rowWalk.seconds 0
namespace Mine
open PySem.Calls PySem.Spec PySem.Flt
open_top hd for PySem.Challenge.rw_pe0121_01
section
open PySem.Calls PySem.Spec PySem.Flt
/-- nothing of the heap is lost or changed -/
noncomputable abbrev Keeps (h h' : Heap) : Prop := ∀ b o, h.get? b = some o → h'.get? b = some o
/-- the heap under a called def: the caller's, the ledger put aside -/
noncomputable def Hid (g h : Heap) (own : List (Addr × Obj)) : Prop := g = hideAll h (own.map (·.1))
/-- the names a def's frame starts with, said beforehand: keeps the frame's map small -/
noncomputable def Bnd (_ : List (Str × Value)) : Prop := True
/-- what a call hands back -/
noncomputable def RetOf (s : Shared) (Q : Value → Shared → Prop) (Post : Heap → Heap → Value → Prop) : Prop :=
  ∀ v h' tk', Keeps s.heap h' → Post s.heap h' v → Q v { s with heap := h', toks := tk' }
theorem RetOf.at {s : Shared} {Q : Value → Shared → Prop} {Post : Heap → Heap → Value → Prop} {v : Value} {h' : Heap} {tk' : Nat} (R : RetOf s Q Post) (k : Keeps s.heap h') (p : Post s.heap h' v) : Q v { s with heap := h', toks := tk' } := R v h' tk' k p

/-- a call of the def at `f`, made from a def's frame: old objects stay as they are, `Post` says what comes back -/
noncomputable abbrev Ctr (w : World) (mean : ExcName → Option Value) (mg mb : Str → Option Value) (f : Addr) (vs : List Value) (own : List (Addr × Obj)) (need : Nat) (Post : Heap → Heap → Value → Prop) : Prop :=
  ∀ (dp un : Nat) (gd : Option (List Code)) (cn : Str) (cs : Scope) (a : Addr) (ccd : Value) (cl : List (Str × Addr)) (outer : List Env) (A₀ : Around) (base h₀ : Heap) (L : Addr) (m : Str → Option Value) (s : Shared) (Q E : Value → Shared → Prop),
    Below A₀ base outer h₀ → Fr h₀ L s.heap m → (hd.heap_39 w.params).In h₀ → News h₀ L s.heap own → Top hd.view_39 (looseW hd.view_39 [Str.ofString "_twin_re_1", Str.ofString "_twin_re_2"]) mean mg mb h₀ → cs.kind = .function →
    dp + need < recursionLimit → un + 100 * need < cLine → RetOf s Q Post →
      wpAny (model Challenge.rw_pe0121_01.row.prog w) (ktrTop dp un gd cn cs L a ccd cl outer) (call (.ref f) vs) Q E s

noncomputable abbrev tupO (vs : Array Value) : Obj := { cls := .type "tuple", data := .seq vs }
/-- a new tuple of three floats; `P` is said of their tokens -/
noncomputable def PTup3 (x y z : UInt64) (P : Tok → Tok → Tok → Prop) (h h' : Heap) (v : Value) : Prop := ∃ a u1 u2 u3, v = .ref a ∧ h.get? a = none ∧ h'.get? a = some (tupO #[.float x u1, .float y u2, .float z u3]) ∧ P u1 u2 u3
noncomputable def PBool (b : Bool) (_ _ : Heap) (v : Value) : Prop := v = .bool b
noncomputable def PStr (x : Str) (_ _ : Heap) (v : Value) : Prop := ∃ t, v = .str x t
section
variable {prog : Program} {w : World} {A A₀ : Around} {s : Shared} {K : Frag} {L : Addr} {h₀ base : Heap} {m mg mb : Str → Option Value} {news : List (Addr × Obj)} {p : Program} {loose : List Str} {mean : ExcName → Option Value}
theorem code_defP {env : Env} {outer : List Env} {R : Result → Shared → Prop} {name qual : Str} {params : Arguments} {body : List Stmt} {scope : Scope} {dV kV doc pm cdv ct oc : Value} {an od : Option Addr} {osl : Array (Option Value)} {f : Addr} {args : Args} {binds : List (Str × Value)}
    (_hB : Bnd binds) (B : Below A₀ base outer h₀) (F : Fr h₀ L s.heap m) (X₀ : K.In h₀) (N : News h₀ L s.heap news) (T : Top p loose mean mg mb h₀) (hA : A.frames = some (env :: outer)) (hf : env.frame = some L) (hke : env.scope.kind = .function)
    (ho : K.lookup f = some ⟨oc, od, .func (fnOf name qual params body scope dV kV doc pm an cdv ct), osl⟩) (hcd : codeIn K cdv qual = true) (hroom : A.depth < recursionLimit)
    (hbind : BindsTo s (fnOf name qual params body scope dV kV doc pm an cdv ct) args binds.reverse) (hloc : ∀ y ∈ binds.reverse, scope.names.lookup y.1 = some .local)
    (h : ∀ g L' h₁, Hid g s.heap news → Fr h₀ L g m → Fr g L' h₁ (fun y => binds.lookup y) → News g L' h₁ news → Below A base (env :: outer) g → K.In g → Top p loose mean mg mb g →
      wpAny (model prog w) (A.deeper (envOf qual scope L' f cdv)) (execs body (envOf qual scope L' f cdv))
        (fun fl s' => LeaveK h₀ L m g R (match fl with | .ret v => v | _ => .none) s')
        (fun e s' => wpAny (model prog w) (A.deeper (envOf qual scope L' f cdv)) (leaving (envOf qual scope L' f cdv) e) (fun _ s'' => R (.error e) s'') (fun e' s'' => R (.error e') s'') s')
        { s with heap := h₁, toks := s.toks + binds.reverse.length })
    (hco : scope.isCoroutine = false) (hgen : scope.isGenerator = false) (hk : scope.kind = .function)
    (hcell : ∀ x ∈ scope.names, x.2 ≠ .cell) : codeAny (model prog w) A (.call (.ref f) args) R s := by
  obtain ⟨FG, BG, st, lv⟩ := groundX (R := R) B F N hA hf hke
  refine codeAny_call_def (fd := fnOf name qual params body scope dV kV doc pm an cdv ct) (body := body) (binds := binds.reverse) hroom ((X₀.keeps F.keep) _ _ ho) rfl (T.nolimit.keeps F.keep) (codeRec_of (X₀.keeps F.keep) hcd) rfl hbind hcell hloc (fun h₁ hns hk₁ => ?_) hco hgen hk
  exact wpAny_mono (h _ s.heap.objs.size h₁ rfl FG ⟨(by simpa using hns), fun b o e => hk₁ b o (of_hideAll _ e), Nat.le_of_eq (hideAll_size _ _)⟩
    (fun p hp => ⟨hk₁ _ _ (N p hp).1, Nat.ne_of_lt (Heap.lt_size (N p hp).1), hideAll_none _ (List.mem_map_of_mem hp)⟩) BG (X₀.keeps st) (T.keeps st)) (fun fl s' hl => lv _ _ hl) fun _ _ y => y
end
section
variable {g h h' h₀ : Heap} {L L' a : Addr} {m m' : Str → Option Value} {own news news' : List (Addr × Obj)} {o : Obj}
theorem keeps_of (H : Hid g h own) (F' : Fr g L' h' m') (N' : News g L' h' news') (N : News h₀ L h own) (hs : ∀ p ∈ own, p ∈ news') : Keeps h h' := fun b o e => by
  by_cases q : b ∈ own.map (·.1)
  · obtain ⟨p, hp, rfl⟩ := List.mem_map.mp q
    have e1 := (N p hp).1
    rw [e] at e1
    obtain rfl := Option.some.inj e1
    exact (N' p (hs p hp)).1
  · exact F'.keep b o (by rw [show g = _ from H]; exact hideAll_get _ e q)
theorem fresh_of (H : Hid g h own) (N' : News g L' h' news') (hm : (a, o) ∈ news') (hn : ∀ p ∈ own, p.1 ≠ a) : h.get? a = none := by
  cases q : h.get? a with
  | none => rfl
  | some o' =>
    have e := (N' _ hm).2.2
    rw [show g = _ from H] at e
    have e2 := hideAll_get (own.map (·.1)) q (fun hb => by obtain ⟨p, hp, e3⟩ := List.mem_map.mp hb; exact hn p hp e3)
    rw [e2] at e; cases e
theorem news_add (F : Fr h₀ L h m) (N : News h₀ L h news) (k : Keeps h h') (hn : h.get? a = none) (ho : h'.get? a = some o) : News h₀ L h' ((a, o) :: news) := fun p hp => by
  rcases List.mem_cons.mp hp with rfl | hp
  · refine ⟨ho, fun e => ?_, ?_⟩
    · obtain ⟨oL, _, _, hL, _⟩ := F.ns
      have e : a = L := e
      rw [e, hL] at hn; cases hn
    · cases q : h₀.get? a with
      | none => rfl
      | some o' => rw [F.keep _ _ q] at hn; cases hn
  · exact ⟨k _ _ (N p hp).1, (N p hp).2⟩
theorem off_add : ∀ {news : List (Addr × Obj)}, News h₀ L h news → h.get? a = none → LCg.Off1 a news
  | [], _, _ => trivial
  | p :: r, N, hn => ⟨fun (e : p.1 = a) => (by have := (N p (.head _)).1; rw [e, hn] at this; exact nomatch this), off_add (fun q hq => N q (.tail _ hq)) hn⟩
theorem news_sub (N : News h₀ L h news) (hs : ∀ p ∈ own, p ∈ news) : News h₀ L h own := fun p hp => N p (hs p hp)
end
section
variable {w : World} {mean : ExcName → Option Value} {mg mb : Str → Option Value} {f : Addr} {vs : List Value} {own news : List (Addr × Obj)} {need : Nat}
  {dp un : Nat} {gd : Option (List Code)} {cn : Str} {cs : Scope} {a : Addr} {ccd : Value} {cl : List (Str × Addr)} {outer : List Env} {A₀ : Around} {base h₀ : Heap} {L : Addr} {m : Str → Option Value} {s : Shared} {Q E : Value → Shared → Prop}
/-- the use of a contract: the caller's ledger comes back whole -/
theorem use_any {Post : Heap → Heap → Value → Prop} (C : Ctr w mean mg mb f vs own need Post) (B : Below A₀ base outer h₀) (F : Fr h₀ L s.heap m) (X : (hd.heap_39 w.params).In h₀) (N : News h₀ L s.heap news)
    (T : Top hd.view_39 (looseW hd.view_39 [Str.ofString "_twin_re_1", Str.ofString "_twin_re_2"]) mean mg mb h₀) (hk : cs.kind = .function) (hs : ∀ p ∈ own, p ∈ news) (hd' : dp + need < recursionLimit) (hu : un + 100 * need < cLine)
    (h : ∀ v h' tk', Keeps s.heap h' → Post s.heap h' v → Fr h₀ L h' m → News h₀ L h' news → Q v { s with heap := h', toks := tk' }) :
    wpAny (model Challenge.rw_pe0121_01.row.prog w) (ktrTop dp un gd cn cs L a ccd cl outer) (call (.ref f) vs) Q E s :=
  C _ _ _ _ _ _ _ _ _ _ _ _ _ _ _ _ _ B F X (news_sub N hs) T hk hd' hu fun v h' tk' k p => h v h' tk' k p (F.grownK k) (N.grown k)
theorem use_tup3 {x y z : UInt64} {P : Tok → Tok → Tok → Prop} (C : Ctr w mean mg mb f vs own need (PTup3 x y z P)) (B : Below A₀ base outer h₀) (F : Fr h₀ L s.heap m) (X : (hd.heap_39 w.params).In h₀) (N : News h₀ L s.heap news)
    (T : Top hd.view_39 (looseW hd.view_39 [Str.ofString "_twin_re_1", Str.ofString "_twin_re_2"]) mean mg mb h₀) (hk : cs.kind = .function) (hs : ∀ p ∈ own, p ∈ news) (hd' : dp + need < recursionLimit) (hu : un + 100 * need < cLine)
    (h : ∀ D u1 u2 u3 h' tk', let o := tupO #[.float x u1, .float y u2, .float z u3]; Fr h₀ L h' m → News h₀ L h' ((D, o) :: news) → LCg.Off1 D news → P u1 u2 u3 → Q (.ref D) { s with heap := h', toks := tk' }) :
    wpAny (model Challenge.rw_pe0121_01.row.prog w) (ktrTop dp un gd cn cs L a ccd cl outer) (call (.ref f) vs) Q E s :=
  use_any C B F X N T hk hs hd' hu fun v h' tk' k ⟨D, u1, u2, u3, e, hn, ho, hp⟩ F' _ => by subst e; exact h D u1 u2 u3 h' tk' F' (news_add F N k hn ho) (off_add N hn) hp
theorem use_bool {b : Bool} (C : Ctr w mean mg mb f vs own need (PBool b)) (B : Below A₀ base outer h₀) (F : Fr h₀ L s.heap m) (X : (hd.heap_39 w.params).In h₀) (N : News h₀ L s.heap news)
    (T : Top hd.view_39 (looseW hd.view_39 [Str.ofString "_twin_re_1", Str.ofString "_twin_re_2"]) mean mg mb h₀) (hk : cs.kind = .function) (hs : ∀ p ∈ own, p ∈ news) (hd' : dp + need < recursionLimit) (hu : un + 100 * need < cLine)
    (h : ∀ h' tk', Fr h₀ L h' m → News h₀ L h' news → Q (.bool b) { s with heap := h', toks := tk' }) :
    wpAny (model Challenge.rw_pe0121_01.row.prog w) (ktrTop dp un gd cn cs L a ccd cl outer) (call (.ref f) vs) Q E s :=
  use_any C B F X N T hk hs hd' hu fun v h' tk' _ e F' N' => by subst e; exact h h' tk' F' N'
theorem use_str {x : Str} (C : Ctr w mean mg mb f vs own need (PStr x)) (B : Below A₀ base outer h₀) (F : Fr h₀ L s.heap m) (X : (hd.heap_39 w.params).In h₀) (N : News h₀ L s.heap news)
    (T : Top hd.view_39 (looseW hd.view_39 [Str.ofString "_twin_re_1", Str.ofString "_twin_re_2"]) mean mg mb h₀) (hk : cs.kind = .function) (hs : ∀ p ∈ own, p ∈ news) (hd' : dp + need < recursionLimit) (hu : un + 100 * need < cLine)
    (h : ∀ t h' tk', Fr h₀ L h' m → News h₀ L h' news → Q (.str x t) { s with heap := h', toks := tk' }) :
    wpAny (model Challenge.rw_pe0121_01.row.prog w) (ktrTop dp un gd cn cs L a ccd cl outer) (call (.ref f) vs) Q E s :=
  use_any C B F X N T hk hs hd' hu fun v h' tk' _ ⟨t, e⟩ F' N' => by subst e; exact h t h' tk' F' N'
end
/-- the count of tokens, forgotten but for being above nought -/
theorem gen_toks {α : Type} {M : Model} {A : Around} {t : Sem α} {Q : α → Shared → Prop} {E : Value → Shared → Prop} {h : Heap} {g : Array GenState} {d : Drawn} {o : OsState} {X : Nat} (hX : 0 < X) (H : ∀ tk, 0 < tk → wpAny M A t Q E ⟨h, g, d, tk, o⟩) : wpAny M A t Q E ⟨h, g, d, X, o⟩ := H X hX
/-- no reader has booked a token: read off the written part -/
theorem none_booked {w : World} {h : Heap} {p : Program} {loose : List Str} {mean : ExcName → Option Value} {mg mb : Str → Option Value} (X : (hd.heap_39 w.params).In h) (T : Top p loose mean mg mb h) : NoneBooked h := by
  obtain ⟨mc, ⟨o, es, ep, ho, hd', hk, hf⟩, _⟩ := T.nodigits
  have e := X 2 _ rfl
  have e' : o = _ := Option.some.inj (ho.symm.trans e)
  subst e'
  injection hd' with h1 h2
  subst h1
  exact ⟨mc, ⟨_, _, _, ho, rfl, hk, hf⟩, by rw [← hf]; rfl⟩
/-- what stands behind the facts that an object is new -/
structure Stop (k : Prop) : Prop where
  out : k
noncomputable def Off1c (D : Addr) (k : Prop) : List (Addr × Obj) → Prop
  | [] => Stop k
  | (a, _) :: r => (@Ne Nat a D) → Off1c D k r
theorem Off1c.of {D : Addr} {k : Prop} : ∀ {l : List (Addr × Obj)}, LCg.Off1 D l → Off1c D k l → k
  | [], _, h => h.out
  | (_, _) :: _, o, h => Off1c.of o.2 (h o.1)
/-- the addresses below a new one, each a fact of its own -/
noncomputable def Ltc (D : Nat) (k : Prop) : List (Addr × Obj) → Prop
  | [] => Stop k
  | (a, _) :: r => (@LT.lt Nat _ a D) → Ltc D k r
theorem Ltc.of {D : Addr} {k : Prop} : ∀ {l : List (Addr × Obj)}, (∀ p ∈ l, p.1 < D) → Ltc D k l → k
  | [], _, h => h.out
  | (_, _) :: _, o, h => Ltc.of (fun q hq => o q (.tail _ hq)) (h (o _ (.head _)))
/-- small steps of arithmetic, told once (an omega's proof is some hundred terms long) -/
theorem ar_r0 {a n L : Nat} (h : a + n < L) : a < L := Nat.lt_of_le_of_lt (Nat.le_add_right _ _) h
theorem ar_r1 {a n k L : Nat} (h : a + n < L) (hk : k ≤ n) : a + k < L := Nat.lt_of_le_of_lt (Nat.add_le_add_left hk a) h
theorem ar_r2 {a n k j L : Nat} (h : a + n < L) (hk : k + j ≤ n) : a + k + j < L := by rw [Nat.add_assoc]; exact ar_r1 h hk
theorem ar_abs {x n : Int} (h0 : 0 ≤ x) (h1 : x ≤ n) (hn : n < 4611686018427387904) : x.natAbs < 2 ^ 62 := by omega
theorem ar_absC {x n : Int} (h : 0 ≤ x ∧ x ≤ n) (hn : n < 4611686018427387904) : x.natAbs < 2 ^ 62 := by omega
theorem ar_absN {v n : Nat} (h : v ≤ n) (hn : n < 4611686018427387904) : ((v : Nat) : Int).natAbs < 2 ^ 62 := by omega
theorem ar_absM {v : Nat} : (min 1 (v : Int)).natAbs < 2 ^ 62 := by omega
theorem ar_absL {v n : Nat} (h : v < n) (hn : n < 4611686018427387904) : (1 + (v : Int)).natAbs < 2 ^ 62 := by omega
theorem ar_cle {v n : Nat} {m : Int} (h : v ≤ n) (hm : (n : Int) ≤ m) : (v : Int) ≤ m := Int.le_trans (Int.ofNat_le.mpr h) hm
theorem ar_min0 {v : Nat} : 0 ≤ min 1 (v : Int) := by omega
theorem ar_min1 {v : Nat} {m : Int} (hm : 1 ≤ m) : min 1 (v : Int) ≤ m := by omega
theorem ar_sc {v n m : Nat} (h : v ≤ n) (hm : n + 1 ≤ m) : v + 1 ≤ m := Nat.le_trans (Nat.succ_le_succ h) hm
theorem ar_ne {a k j : Nat} (h : k ≠ j) : a + k ≠ a + j := fun e => h (Nat.add_left_cancel e)
theorem ar_ne0 {a k : Nat} : a ≠ a + (k + 1) := fun e => by omega
/-- the ends of a walk, by names of their own -/
noncomputable def Held {α : Type} (qq : α → Shared → Prop) (v : α) (s : Shared) : Prop := qq v s
noncomputable def Via {α : Type} (Q qq : α → Shared → Prop) : Prop := ∀ v s, Q v s → qq v s
theorem Held.go {α : Type} {Q qq : α → Shared → Prop} {v : α} {s : Shared} (h : Via Q qq) (k : Q v s) : Held qq v s := h v s k
/-- a goal under a name: to take a fact to pieces without storing the goal at every piece -/
theorem named {G : Prop} (h : ∀ G' : Prop, (G → G') → G') : G := h G id
theorem letA {α : Type} {M : Model} {A : Around} {t : Sem α} {Q : α → Shared → Prop} {E : Value → Shared → Prop} {s : Shared} (h : let A₁ := A; wpAny M A₁ t Q E s) : wpAny M A t Q E s := h
theorem cut {α : Type} {M : Model} {A : Around} {t : Sem α} {Q : α → Shared → Prop} {E : Value → Shared → Prop} {s : Shared}
    (h : ∀ qq, Via Q qq → wpAny M A t (Held qq) (fun _ _ => False) s) : wpAny M A t Q E s := wpAny_mono (h Q fun _ _ h => h) (fun _ _ h => h) fun _ _ h => h.elim
theorem cut2 {α β : Type} {M : Model} {A : Around} {t : Sem α} {b : Sem β} {Q : β → Shared → Prop} {E E' : Value → Shared → Prop} {s : Shared}
    (h : ∀ qq, Via Q qq → wpAny M A t (fun _ s₂ => wpAny M A b (Held qq) E s₂) E' s) : wpAny M A t (fun _ s₂ => wpAny M A b Q E s₂) E' s := h Q fun _ _ h => h
theorem execs_cut {M : Model} {A : Around} {st : Stmt} {rest : List Stmt} {env : Env} {Q : Flow → Shared → Prop} {E : Value → Shared → Prop} {s : Shared}
    (h : ∀ q, Via (fun f s' => match f with | .next => wpAny M A (execs rest env) Q E s' | f => Q f s') q → wpAny M A (exec st env) (Held q) E s) : wpAny M A (execs (st :: rest) env) Q E s :=
  wpAny_execs_cons (h _ fun _ _ h => h)
/-- the same, the map and the ledger under names of their own (a name is one term at every depth), the state written out -/
theorem execs_cutL {M : Model} {A : Around} {st : Stmt} {rest : List Stmt} {env : Env} {Q : Flow → Shared → Prop} {E : Value → Shared → Prop} {s : Shared} {h₀ h : Heap} {g : Array GenState} {d : Drawn} {tk : Nat} {o : OsState} {L : Addr} {m : Str → Option Value} {news : List (Addr × Obj)}
    (hs : s = ⟨h, g, d, tk, o⟩) (F : Fr h₀ L h m) (N : News h₀ L h news)
    (k : let m₁ := m; let n₁ := news; Fr h₀ L h m₁ → News h₀ L h n₁ → ∀ q, Via (fun f s' => match f with | .next => wpAny M A (execs rest env) Q E s' | f => Q f s') q → wpAny M A (exec st env) (Held q) E ⟨h, g, d, tk, o⟩) : wpAny M A (execs (st :: rest) env) Q E s :=
  wpAny_execs_cons (hs ▸ k F N _ fun _ _ h => h)
noncomputable def nth {α : Type} : List α → Nat → Option α
  | [], _ => none
  | a :: _, 0 => some a
  | _ :: r, n + 1 => nth r n
theorem memk {α : Type} {x : α} : ∀ {l : List α} (n : Nat), nth l n = some x → x ∈ l
  | [], n, h => by cases n <;> cases h
  | a :: r, 0, h => by cases h; exact .head _
  | a :: r, n + 1, h => .tail _ (memk n h)
end
local macro_rules
  | `(tactic| walk_at $s:str) => do
    if ("CSrcC|CSrcP|CTup|CTupT|CompEnd|CompEndC|CompEndP|CompRest|CompRestC|CompRestP|CompRestT|CompSrc|FinA|FinE|Held|UnrEndW|binaryOp Add str str|binaryOp Div float float|binaryOp Div int int|binaryOp FloorDiv int int|binaryOp Mod float float|binaryOp Mod int int|binaryOp Mult float int|binaryOp Mult int float|binaryOp Mult str int|call builtin:len|call builtin:list.append|call builtin:max|call builtin:min|call builtin:re.Pattern.sub|call builtin:round|call builtin:str.find|call builtin:str.join|call builtin:str.replace|call builtin:str.split|call ref|call type:enumerate|compareOp Eq ref ref|compareOp IsNot bool bool|compareOp NotIn|compareOp NotIn int ref|delItem ref int|eval Call|eval ListComp|exec Assign cons ListComp|exec For Name Call cons nil|exec For Name Name cons nil|exec If|execs cons|execs nil|getMethod ref|ite|pyIter ref|storeName|subscriptTail|subscriptTail Name Constant ref int|subscriptTail Name Name ref int|subscriptTail Subscript".splitOn "|").contains s.getString then `(tactic| k_extra $(Lean.Syntax.mkStrLit ("mine:" ++ s.getString))) else Lean.Macro.throwUnsupported
local macro_rules | `(tactic| k_lt $h) => `(tactic| k_dflt (refine Ltc.of $h ?_; clear $h; (repeat intro o2); refine ⟨?_⟩))
local macro_rules | `(tactic| omega) => `(tactic| k_extra "mine arith")
local macro_rules | `(tactic| k_mem) => `(tactic| k_extra "mine mem")
local macro_rules | `(tactic| k_ne) => `(tactic| k_extra "mine ne")
local macro_rules | `(tactic| units_room) => `(tactic| k_extra "mine units")
section
theorem ksetP02_1 : True := by
  k_with_none
  k_with "mine enter" => (refine' code_defP ?mkb ?mk1 ?mk2 ?mk3 ?mk4 ?mk5 ?mkA ?mkF ?mkK ?mk6 ?mk7 ?mk8 ?mk9 ?mkB ?_ ?mc2 ?mc3 ?mc4 ?mc5; (case mkb => assumption); (case mkA => exact rfl); (case mkF => exact rfl); (case mkK => assumption); (case mk1 => k_asm); (case mk2 => k_asm); (case mk3 => k_asm); (case mk4 => k_asm); (case mk5 => k_asm); (case mk6 => k_is); (case mk7 => k_is); (case mk8 => ktr_room); (case mk9 => exact BindsTo.of_eq rfl); (case mc5 => decide); (case mkB => exact locs rfl); (case mc2 => exact rfl); (case mc3 => exact rfl); (case mc4 => exact rfl); k_whole; intro g'w L'w h'w hH'w FG'w F'w N'w B'w X'w T'w; (try simp only [List.reverse_cons, List.reverse_nil, List.nil_append, List.cons_append, List.length_cons, List.length_nil]); (try dsimp only); (try k_lift B'w); (try k_fold); refine cut ?_; intro qq'w hq'w; refine letA ?_; intro A1'w)
  k_with "mine start" => (w_top off; dsimp only [Ctr]; k_fill; intros; refine wpAny_call ?_; k_dflt (k_extra "mine enter"))
  k_with "mine keeps" => (refine' keeps_of ?mq1 ?mq2 ?mq3 ?mq4 ?mq5; (case mq1 => with_reducible assumption); (case mq2 => with_reducible assumption); (case mq3 => with_reducible assumption); (case mq4 => with_reducible assumption); (case mq5 => lcg_sub))
  k_with "mine off" => (first | exact List.forall_mem_nil _ | (refine List.forall_mem_cons.mpr ⟨?ma, ?mb⟩; (case ma => k_ne); (case mb => k_extra "mine off")))
  k_with "mine fresh" => (refine' fresh_of ?mq1 ?mq2 ?mq3 ?mq4; (case mq1 => with_reducible assumption); (case mq2 => with_reducible assumption); (case mq3 => k_mem); (case mq4 => k_extra "mine off"))
  k_with "mine ret" => ((rename RetOf _ _ _ => hR'w); refine' RetOf.at hR'w ?mkk ?_; (case mkk => k_extra "mine keeps"))
  k_with "mine tup3" => (k_extra "mine ret"; refine' ⟨_, _, _, _, rfl, ?mkf, ?mkg, ?_⟩; (case mkg => exact News.get (by with_reducible assumption) (by k_mem)); (case mkf => k_extra "mine fresh"))
  k_with "mine:execs cons" => (k_here; first | (refine' execs_cutL ?mhs ?mF ?mN ?_; (case mhs => first | (dsimp only; exact rfl) | dsimp only | exact rfl); (case mF => k_asm); (case mN => k_asm); intro m1'w n1'w F1'w N1'w q'w hq'w; try dsimp only at F1'w N1'w) | (refine' execs_cut ?_; intro q'w hq'w))
  k_with "mine:execs cons" => (k_here; (with_reducible show wpAny _ _ _ _ _ (Shared.mk _ _ _ (_ + _) _)); refine' gen_toks ?mhX ?_; (case mhX => omega); intro tk'w htk'w)
  k_with "mine:execs nil" => (k_here; (with_reducible show wpAny _ _ _ _ _ (Shared.mk _ _ _ (_ + _) _)); refine' gen_toks ?mhX ?_; (case mhX => omega); intro tk'w htk'w)
  k_with "mine units" => ((have hcL9 := cLine_is); (try simp +zetaDelta only [units_in1, units_deeper, Around.mark_units, units_caller]); (try dsimp +zetaDelta only [ktrTop]); omega)
  k_with "mine step" => (first | (k_unfold; (try dsimp only)) | (k_end; wrow_close) | walk1 | (dsimp only; walk1) | (leave1; walk_say "STEP leave1"; try dsimp only))
  k_with "mine ne" => (first | with_reducible assumption | (refine Ne.symm ?_; with_reducible assumption) | (refine Nat.ne_of_lt ?_; with_reducible assumption) | (refine Nat.ne_of_gt ?_; with_reducible assumption) | (refine neN ?_; (try dsimp only); (try simp only [ne_eq]); omega))
  k_with "mine:Held" => (refine Held.go (by with_reducible assumption) ?_; try dsimp only)
  k_with "mine offs" => (k_dflt ((rename LCg.Off1 _ _ => hq'w); refine Off1c.of hq'w ?_; clear hq'w; (repeat intro o2'w); refine ⟨?_⟩))
  k_with "mine:FinE" => ((unfold LCg.FinE); intro D'w h'w tk'w F'w N'w o1'w; (try simp only [List.nil_append, List.cons_append] at N'w o1'w); k_extra "mine offs"; (try dsimp only))
  k_with "mine:CompRest" => (with_unfolding_all first
    | (refine LCg.CompRest.succ ?_; intro v'w I'w oI'w C'w oC'w D'w m'w h'w tk'w E'w hv'w hC'w hx'w F'w N'w off'w ne'w; (first | lcg_open hv'w | (obtain ⟨t9'w, hv9'w⟩ := hv'w; subst hv9'w)); refine cut ?_; intro q4'w hq4'w)
    | refine LCg.CompRest.zero ?_)
  k_with "mine:CompRestT" => (with_unfolding_all first
    | (refine LCt.CompRestT.succ ?_; intro v'w I'w oI'w C'w oC'w D'w m'w h'w tk'w E'w hv'w hC'w hx'w F'w N'w off'w ne'w; (first | lcg_open hv'w | (obtain ⟨t9'w, hv9'w⟩ := hv'w; subst hv9'w)))
    | refine LCt.CompRestT.zero ?_)
  k_with "mine:CompEnd" => (refine LCg.CompEnd.intro (by k_asm) (by k_asm) _ (fun _ hp => hp) (by with_reducible assumption) (by lcg_src) ?_)
  k_with "mine arith" => (first | exact Nat.succ_pos _ | with_reducible assumption | (with_reducible exact ar_r0 (by assumption)) | (with_reducible exact ar_r2 (by assumption) (by decide)) | (with_reducible exact ar_r1 (by assumption) (by decide)) | (with_reducible exact ar_absC (by assumption) (by decide)) | (with_reducible exact ar_abs (by assumption) (by assumption) (by decide)) | (with_reducible exact ar_absN (by assumption) (by decide)) | (with_reducible exact ar_absM) | (with_reducible exact ar_absL (by assumption) (by decide)) | (with_reducible exact ar_cle (by assumption) (by decide)) | (with_reducible exact Int.natCast_nonneg _) | (with_reducible exact ar_min0) | (with_reducible exact ar_min1 (by decide)) | (with_reducible exact ar_sc (by assumption) (by decide)) | (with_reducible exact Nat.le_trans (by assumption) (by decide)) | decide)
  k_with "mine mem" => (first | exact memk 0 rfl | exact memk 1 rfl | exact memk 2 rfl | exact memk 3 rfl | exact memk 4 rfl | exact memk 5 rfl | exact memk 6 rfl | exact memk 7 rfl | exact memk 8 rfl | exact memk 9 rfl | exact memk 10 rfl | exact memk 11 rfl | exact memk 12 rfl | exact memk 13 rfl | exact memk 14 rfl | exact memk 15 rfl | exact memk 16 rfl | exact memk 17 rfl | exact memk 18 rfl | exact memk 19 rfl)
  k_with "mine same" => ((repeat (rename (¬ _) ∧ _ => hz'w; have hz1'w := And.left hz'w; have hz2'w := And.right hz'w; clear hz'w)); (repeat (first | with_reducible rfl | (refine (if_neg (by assumption)).trans ?_))))
  trivial
noncomputable def fmax3 (x y z : UInt64) : UInt64 :=
  if (Float64.cmp (if (Float64.cmp x y == some .lt) = true then y else x) z == some .lt) = true then z else (if (Float64.cmp x y == some .lt) = true then y else x)
noncomputable def fmin3 (x y z : UInt64) : UInt64 :=
  if (Float64.cmp z (if (Float64.cmp y x == some .lt) = true then y else x) == some .lt) = true then z else (if (Float64.cmp y x == some .lt) = true then y else x)

theorem max3_num {prog : Program} {w : World} {A : Around} {E : Value → Shared → Prop} {s : Shared} {Q : Value → Shared → Prop} {a b c : Value} (hh : A.handled = none) (ha : NumV a) (hb : NumV b) (hc : NumV c)
    (h : ∀ h' tk, (∀ d o, s.heap.get? d = some o → h'.get? d = some o) → Q (if ltV (if ltV a b then b else a) c then c else (if ltV a b then b else a)) { s with heap := h', toks := tk }) :
    wpAny (model prog w) A (call (.builtin "max") [a, b, c]) Q E s := by
  have hT : (s.heap.push { cls := .type "tuple", data := .seq #[a, b, c] }).IsTuple s.heap.objs.size #[a, b, c] := ⟨_, Heap.get?_push_size _ rfl, rfl, 0, rfl⟩
  refine call_max_three (wpAny_pyIter_tuple hT ?_)
  have hsz : (s.heap.push { cls := .type "tuple", data := .seq #[a, b, c] }).objs.size = s.heap.objs.size + 1 := Heap.size_push ..
  refine ⟨_, [_, s.heap.objs.size], [_], _, _, _, _, rfl, Walks.tuple (A := A.in1) hh _ s.heap.objs.size (by rw [hsz]; exact Nat.ne_of_lt (Nat.lt_succ_self _)) #[a, b, c],
    ⟨⟨_, Heap.get?_push_size _ rfl, rfl, rfl⟩, hT.push _⟩, fun d hd => ?_, by simp, cmpOf_gt #[a, b, c] (by simp [ha, hb, hc]), fun v h' tk hP hk => ?_⟩
  · show d < ((s.heap.push _).push _).objs.size
    rw [Heap.size_push, hsz]
    rcases List.mem_cons.mp hd with rfl | hd
    · rw [hsz]; exact Nat.lt_succ_self _
    · rcases List.mem_cons.mp hd with rfl | hd
      · exact Nat.lt_succ_of_lt (Nat.lt_succ_self _)
      · cases hd
  · have hold : ∀ d o, s.heap.get? d = some o → h'.get? d = some o := fun d o e => by
      refine hk d o (fun hm => ?_) (Heap.get?_push_of_some _ (Heap.get?_push_of_some _ e))
      rcases List.mem_cons.mp hm with e1 | hm
      · have := Heap.lt_size e; rw [e1, hsz] at this; exact Nat.lt_irrefl _ (Nat.lt_of_succ_lt this)
      · cases hm
    have := h h' tk hold
    have hv : v = if ltV (if ltV a b then b else a) c then c else (if ltV a b then b else a) := by
      cases h1 : ltV a b
      · cases h2 : ltV a c <;> simp [argBest, h1, h2] at hP <;> subst hP <;> simp [h2]
      · cases h2 : ltV b c <;> simp [argBest, h1, h2] at hP <;> subst hP <;> simp [h2]
    rw [hv]; exact this
theorem min3_num {prog : Program} {w : World} {A : Around} {E : Value → Shared → Prop} {s : Shared} {Q : Value → Shared → Prop} {a b c : Value} (hh : A.handled = none) (ha : NumV a) (hb : NumV b) (hc : NumV c)
    (h : ∀ h' tk, (∀ d o, s.heap.get? d = some o → h'.get? d = some o) → Q (if ltV c (if ltV b a then b else a) then c else (if ltV b a then b else a)) { s with heap := h', toks := tk }) :
    wpAny (model prog w) A (call (.builtin "min") [a, b, c]) Q E s := by
  have hT : (s.heap.push { cls := .type "tuple", data := .seq #[a, b, c] }).IsTuple s.heap.objs.size #[a, b, c] := ⟨_, Heap.get?_push_size _ rfl, rfl, 0, rfl⟩
  refine call_min_three (wpAny_pyIter_tuple hT ?_)
  have hsz : (s.heap.push { cls := .type "tuple", data := .seq #[a, b, c] }).objs.size = s.heap.objs.size + 1 := Heap.size_push ..
  refine ⟨_, [_, s.heap.objs.size], [_], _, _, _, _, rfl, Walks.tuple (A := A.in1) hh _ s.heap.objs.size (by rw [hsz]; exact Nat.ne_of_lt (Nat.lt_succ_self _)) #[a, b, c],
    ⟨⟨_, Heap.get?_push_size _ rfl, rfl, rfl⟩, hT.push _⟩, fun d hd => ?_, by simp, cmpOf_lt #[a, b, c] (by simp [ha, hb, hc]), fun v h' tk hP hk => ?_⟩
  · show d < ((s.heap.push _).push _).objs.size
    rw [Heap.size_push, hsz]
    rcases List.mem_cons.mp hd with rfl | hd
    · rw [hsz]; exact Nat.lt_succ_self _
    · rcases List.mem_cons.mp hd with rfl | hd
      · exact Nat.lt_succ_of_lt (Nat.lt_succ_self _)
      · cases hd
  · have hold : ∀ d o, s.heap.get? d = some o → h'.get? d = some o := fun d o e => by
      refine hk d o (fun hm => ?_) (Heap.get?_push_of_some _ (Heap.get?_push_of_some _ e))
      rcases List.mem_cons.mp hm with e1 | hm
      · have := Heap.lt_size e; rw [e1, hsz] at this; exact Nat.lt_irrefl _ (Nat.lt_of_succ_lt this)
      · cases hm
    have := h h' tk hold
    have hv : v = if ltV c (if ltV b a then b else a) then c else (if ltV b a then b else a) := by
      cases h1 : ltV b a
      · cases h2 : ltV c a <;> simp [argBest, h1, h2] at hP <;> subst hP <;> simp [h2]
      · cases h2 : ltV c b <;> simp [argBest, h1, h2] at hP <;> subst hP <;> simp [h2]
    rw [hv]; exact this
theorem fmax3_v (x y z : UInt64) (t u v : Tok) : ∃ t', (if ltV (if ltV (.float x t) (.float y u) then Value.float y u else .float x t) (.float z v) then Value.float z v else (if ltV (.float x t) (.float y u) then .float y u else .float x t)) = Value.float (fmax3 x y z) t' := by
  unfold fmax3
  by_cases h1 : ltV (.float x t) (.float y u) = true
  · have h1' : (Float64.cmp x y == some .lt) = true := h1
    simp only [if_pos h1, if_pos h1']
    by_cases h2 : ltV (.float y u) (.float z v) = true
    · exact ⟨v, by rw [if_pos h2, if_pos (show (Float64.cmp y z == some .lt) = true from h2)]⟩
    · exact ⟨u, by rw [if_neg h2, if_neg (show ¬ (Float64.cmp y z == some .lt) = true from h2)]⟩
  · have h1' : ¬ (Float64.cmp x y == some .lt) = true := h1
    simp only [if_neg h1, if_neg h1']
    by_cases h2 : ltV (.float x t) (.float z v) = true
    · exact ⟨v, by rw [if_pos h2, if_pos (show (Float64.cmp x z == some .lt) = true from h2)]⟩
    · exact ⟨t, by rw [if_neg h2, if_neg (show ¬ (Float64.cmp x z == some .lt) = true from h2)]⟩
theorem fmin3_v (x y z : UInt64) (t u v : Tok) : ∃ t', (if ltV (.float z v) (if ltV (.float y u) (.float x t) then Value.float y u else .float x t) then Value.float z v else (if ltV (.float y u) (.float x t) then .float y u else .float x t)) = Value.float (fmin3 x y z) t' := by
  unfold fmin3
  by_cases h1 : ltV (.float y u) (.float x t) = true
  · have h1' : (Float64.cmp y x == some .lt) = true := h1
    simp only [if_pos h1, if_pos h1']
    by_cases h2 : ltV (.float z v) (.float y u) = true
    · exact ⟨v, by rw [if_pos h2, if_pos (show (Float64.cmp z y == some .lt) = true from h2)]⟩
    · exact ⟨u, by rw [if_neg h2, if_neg (show ¬ (Float64.cmp z y == some .lt) = true from h2)]⟩
  · have h1' : ¬ (Float64.cmp y x == some .lt) = true := h1
    simp only [if_neg h1, if_neg h1']
    by_cases h2 : ltV (.float z v) (.float x t) = true
    · exact ⟨v, by rw [if_pos h2, if_pos (show (Float64.cmp z x == some .lt) = true from h2)]⟩
    · exact ⟨t, by rw [if_neg h2, if_neg (show ¬ (Float64.cmp z x == some .lt) = true from h2)]⟩
section
variable {prog : Program} {w : World} {A : Around} {E : Value → Shared → Prop} {s : Shared} {Q : Value → Shared → Prop} {x y z : UInt64} {t u v : Tok} {h₀ : Heap} {L : Addr} {m : Str → Option Value} {news : List (Addr × Obj)}
theorem max3_f (hh : A.handled = none) (F : Fr h₀ L s.heap m) (N : News h₀ L s.heap news)
    (h : ∀ h' tk t', Fr h₀ L h' m → News h₀ L h' news → Q (.float (fmax3 x y z) t') { s with heap := h', toks := tk }) :
    wpAny (model prog w) A (call (.builtin "max") [.float x t, .float y u, .float z v]) Q E s :=
  max3_num hh (.float x t) (.float y u) (.float z v) fun h' tk kp => by
    obtain ⟨t', e⟩ := fmax3_v x y z t u v
    rw [e]; exact h h' tk t' (F.grownK kp) (N.grown kp)
theorem min3_f (hh : A.handled = none) (F : Fr h₀ L s.heap m) (N : News h₀ L s.heap news)
    (h : ∀ h' tk t', Fr h₀ L h' m → News h₀ L h' news → Q (.float (fmin3 x y z) t') { s with heap := h', toks := tk }) :
    wpAny (model prog w) A (call (.builtin "min") [.float x t, .float y u, .float z v]) Q E s :=
  min3_num hh (.float x t) (.float y u) (.float z v) fun h' tk kp => by
    obtain ⟨t', e⟩ := fmin3_v x y z t u v
    rw [e]; exact h h' tk t' (F.grownK kp) (N.grown kp)
end

section
variable {M : Model} {A : Around} {E : Value → Shared → Prop} {s : Shared} {env : Env} {h₀ : Heap} {L : Addr} {m : Str → Option Value} {news : List (Addr × Obj)}
/-- a plain if that stores one float name: both ways as one -/
structure JC (c : Bool) (h₀ : Heap) (L : Addr) (m : Str → Option Value) (news : List (Addr × Obj)) (s : Shared) (k : Bool) (s' : Shared) : Prop where
  out : k = c
  here : ∃ (h : Heap) (tk : Nat), s' = { s with heap := h, toks := tk } ∧ Fr h₀ L h m ∧ News h₀ L h news
structure JV (x : Str) (v : UInt64) (h₀ : Heap) (L : Addr) (m : Str → Option Value) (news : List (Addr × Obj)) (s : Shared) (f : Flow) (s' : Shared) : Prop where
  next : f = .next
  here : ∃ (h : Heap) (tk : Nat) (t : Tok), s' = { s with heap := h, toks := tk } ∧ Fr h₀ L h (fun y => if y = x then some (.float v t) else m y) ∧ News h₀ L h news
theorem if_float {test e : Expr} {x : Str} {p q pos : Pos} {c : Bool} {a v : UInt64} {t₀ : Tok} {Q : Flow → Shared → Prop}
    (hold : m x = some (.float a t₀))
    (hc : wpAny M A (isTrue test env (eval test env)) (fun k s₂ => JC c h₀ L m news s k s₂) E s)
    (hv : ∀ h tk, Fr h₀ L h m → News h₀ L h news → wpAny M A (exec (.Assign [.Name x p] e q) env) (fun f s₃ => JV x v h₀ L m news s f s₃) E { s with heap := h, toks := tk })
    (hk : ∀ (h : Heap) (tk : Nat) (t : Tok), Fr h₀ L h (fun y => if y = x then some (.float (if c = true then v else a) t) else m y) → News h₀ L h news → Q .next { s with heap := h, toks := tk }) :
    wpAny M A (exec (.If test [.Assign [.Name x p] e q] [] pos) env) Q E s := by
  refine wpAny_If (wpAny_mono hc (fun k s₂ hkc => ?_) fun _ _ h => h)
  obtain ⟨rfl, h, tk, rfl, F, N⟩ := hkc
  cases k with
  | true =>
    show wpAny M A (execs [_] env) Q E _
    refine wpAny_execs_cons (wpAny_mono (hv h tk F N) (fun f s₃ hf => ?_) fun _ _ h => h)
    obtain ⟨rfl, h', tk', t, rfl, F', N'⟩ := hf
    exact wpAny_execs_nil (hk h' tk' t F' N')
  | false =>
    show wpAny M A (execs [] env) Q E _
    refine wpAny_execs_nil (hk h tk t₀ ?_ N)
    have e : (fun y => if y = x then some (Value.float (if false = true then v else a) t₀) else m y) = m := by
      funext y
      by_cases hy : y = x
      · rw [if_pos hy, hy, hold]; simp
      · rw [if_neg hy]
    rw [e]
    exact F
end
section
variable {prog : Program} {w : World} {A : Around} {E : Value → Shared → Prop} {s : Shared} {Q : Value → Shared → Prop} {x y : UInt64} {t u : Tok}
theorem divFF_r (hz : Float64.isZero y = false) (hA : A.handled = none) (h : ∀ t, Q (.float (Float64.div x y) t) { s with toks := s.toks + 1 }) : wpAny (model prog w) A (binaryOp .Div (.float x t) (.float y u)) Q E s :=
  truediv_float_or hA (fun k => absurd k (by rw [hz]; decide)) fun _ => h _
theorem modFF_r (hz : Float64.isZero y = false) (hA : A.handled = none) (h : ∀ t, Q (.float (Float64.divmod x y).2 t) { s with toks := s.toks + 1 }) : wpAny (model prog w) A (binaryOp .Mod (.float x t) (.float y u)) Q E s :=
  mod_ff hA (fun k => absurd k (by rw [hz]; decide)) fun _ => h _
end
end
section
theorem ksetP03_3 : True := by
  k_with_none
  k_with "mine enter" => (refine' code_defP ?mkb ?mk1 ?mk2 ?mk3 ?mk4 ?mk5 ?mkA ?mkF ?mkK ?mk6 ?mk7 ?mk8 ?mk9 ?mkB ?_ ?mc2 ?mc3 ?mc4 ?mc5; (case mkb => assumption); (case mkA => exact rfl); (case mkF => exact rfl); (case mkK => assumption); (case mk1 => k_asm); (case mk2 => k_asm); (case mk3 => k_asm); (case mk4 => k_asm); (case mk5 => k_asm); (case mk6 => k_is); (case mk7 => k_is); (case mk8 => ktr_room); (case mk9 => exact BindsTo.of_eq rfl); (case mc5 => decide); (case mkB => exact locs rfl); (case mc2 => exact rfl); (case mc3 => exact rfl); (case mc4 => exact rfl); k_whole; intro g'w L'w h'w hH'w FG'w F'w N'w B'w X'w T'w; (try simp only [List.reverse_cons, List.reverse_nil, List.nil_append, List.cons_append, List.length_cons, List.length_nil]); (try dsimp only); (try k_lift B'w); (try k_fold); refine cut ?_; intro qq'w hq'w; refine letA ?_; intro A1'w)
  k_with "mine start" => (w_top off; dsimp only [Ctr]; k_fill; intros; refine wpAny_call ?_; k_dflt (k_extra "mine enter"))
  k_with "mine keeps" => (refine' keeps_of ?mq1 ?mq2 ?mq3 ?mq4 ?mq5; (case mq1 => with_reducible assumption); (case mq2 => with_reducible assumption); (case mq3 => with_reducible assumption); (case mq4 => with_reducible assumption); (case mq5 => lcg_sub))
  k_with "mine off" => (first | exact List.forall_mem_nil _ | (refine List.forall_mem_cons.mpr ⟨?ma, ?mb⟩; (case ma => k_ne); (case mb => k_extra "mine off")))
  k_with "mine fresh" => (refine' fresh_of ?mq1 ?mq2 ?mq3 ?mq4; (case mq1 => with_reducible assumption); (case mq2 => with_reducible assumption); (case mq3 => k_mem); (case mq4 => k_extra "mine off"))
  k_with "mine ret" => ((rename RetOf _ _ _ => hR'w); refine' RetOf.at hR'w ?mkk ?_; (case mkk => k_extra "mine keeps"))
  k_with "mine tup3" => (k_extra "mine ret"; refine' ⟨_, _, _, _, rfl, ?mkf, ?mkg, ?_⟩; (case mkg => exact News.get (by with_reducible assumption) (by k_mem)); (case mkf => k_extra "mine fresh"))
  k_with "mine:execs cons" => (k_here; first | (refine' execs_cutL ?mhs ?mF ?mN ?_; (case mhs => first | (dsimp only; exact rfl) | dsimp only | exact rfl); (case mF => k_asm); (case mN => k_asm); intro m1'w n1'w F1'w N1'w q'w hq'w; try dsimp only at F1'w N1'w) | (refine' execs_cut ?_; intro q'w hq'w))
  k_with "mine:execs cons" => (k_here; (with_reducible show wpAny _ _ _ _ _ (Shared.mk _ _ _ (_ + _) _)); refine' gen_toks ?mhX ?_; (case mhX => omega); intro tk'w htk'w)
  k_with "mine:execs nil" => (k_here; (with_reducible show wpAny _ _ _ _ _ (Shared.mk _ _ _ (_ + _) _)); refine' gen_toks ?mhX ?_; (case mhX => omega); intro tk'w htk'w)
  k_with "mine units" => ((have hcL9 := cLine_is); (try simp +zetaDelta only [units_in1, units_deeper, Around.mark_units, units_caller]); (try dsimp +zetaDelta only [ktrTop]); omega)
  k_with "mine step" => (first | (k_unfold; (try dsimp only)) | (k_end; wrow_close) | walk1 | (dsimp only; walk1) | (leave1; walk_say "STEP leave1"; try dsimp only))
  k_with "mine ne" => (first | with_reducible assumption | (refine Ne.symm ?_; with_reducible assumption) | (refine Nat.ne_of_lt ?_; with_reducible assumption) | (refine Nat.ne_of_gt ?_; with_reducible assumption) | (refine neN ?_; (try dsimp only); (try simp only [ne_eq]); omega))
  k_with "mine:Held" => (refine Held.go (by with_reducible assumption) ?_; try dsimp only)
  k_with "mine offs" => (k_dflt ((rename LCg.Off1 _ _ => hq'w); refine Off1c.of hq'w ?_; clear hq'w; (repeat intro o2'w); refine ⟨?_⟩))
  k_with "mine:FinE" => ((unfold LCg.FinE); intro D'w h'w tk'w F'w N'w o1'w; (try simp only [List.nil_append, List.cons_append] at N'w o1'w); k_extra "mine offs"; (try dsimp only))
  k_with "mine:CompRest" => (with_unfolding_all first
    | (refine LCg.CompRest.succ ?_; intro v'w I'w oI'w C'w oC'w D'w m'w h'w tk'w E'w hv'w hC'w hx'w F'w N'w off'w ne'w; (first | lcg_open hv'w | (obtain ⟨t9'w, hv9'w⟩ := hv'w; subst hv9'w)); refine cut ?_; intro q4'w hq4'w)
    | refine LCg.CompRest.zero ?_)
  k_with "mine:CompRestT" => (with_unfolding_all first
    | (refine LCt.CompRestT.succ ?_; intro v'w I'w oI'w C'w oC'w D'w m'w h'w tk'w E'w hv'w hC'w hx'w F'w N'w off'w ne'w; (first | lcg_open hv'w | (obtain ⟨t9'w, hv9'w⟩ := hv'w; subst hv9'w)))
    | refine LCt.CompRestT.zero ?_)
  k_with "mine:CompEnd" => (refine LCg.CompEnd.intro (by k_asm) (by k_asm) _ (fun _ hp => hp) (by with_reducible assumption) (by lcg_src) ?_)
  k_with "mine arith" => (first | exact Nat.succ_pos _ | with_reducible assumption | (with_reducible exact ar_r0 (by assumption)) | (with_reducible exact ar_r2 (by assumption) (by decide)) | (with_reducible exact ar_r1 (by assumption) (by decide)) | (with_reducible exact ar_absC (by assumption) (by decide)) | (with_reducible exact ar_abs (by assumption) (by assumption) (by decide)) | (with_reducible exact ar_absN (by assumption) (by decide)) | (with_reducible exact ar_absM) | (with_reducible exact ar_absL (by assumption) (by decide)) | (with_reducible exact ar_cle (by assumption) (by decide)) | (with_reducible exact Int.natCast_nonneg _) | (with_reducible exact ar_min0) | (with_reducible exact ar_min1 (by decide)) | (with_reducible exact ar_sc (by assumption) (by decide)) | (with_reducible exact Nat.le_trans (by assumption) (by decide)) | decide)
  k_with "mine mem" => (first | exact memk 0 rfl | exact memk 1 rfl | exact memk 2 rfl | exact memk 3 rfl | exact memk 4 rfl | exact memk 5 rfl | exact memk 6 rfl | exact memk 7 rfl | exact memk 8 rfl | exact memk 9 rfl | exact memk 10 rfl | exact memk 11 rfl | exact memk 12 rfl | exact memk 13 rfl | exact memk 14 rfl | exact memk 15 rfl | exact memk 16 rfl | exact memk 17 rfl | exact memk 18 rfl | exact memk 19 rfl)
  k_with "mine same" => ((repeat (rename (¬ _) ∧ _ => hz'w; have hz1'w := And.left hz'w; have hz2'w := And.right hz'w; clear hz'w)); (repeat (first | with_reducible rfl | (refine (if_neg (by assumption)).trans ?_))))
  trivial
section
variable {prog : Program} {w : World} {A : Around} {E : Value → Shared → Prop} {s : Shared} {h₀ : Heap} {L b : Addr} {m : Str → Option Value} {news : List (Addr × Obj)} {name x : Str} {scope : Scope} {cd : Value} {Q : Flow → Shared → Prop} {p1 p2 p3 p4 p5 q pos : Pos} {k1 k2 : Nat} {a c d : UInt64} {t₀ : Tok}
theorem clip_lt (F : Fr h₀ L s.heap m) (N : News h₀ L s.heap news) (hold : m x = some (.float a t₀))
    (h : ∀ (h : Heap) (tk : Nat) (t : Tok), Fr h₀ L h (fun y => if y = x then some (.float (if (Float64.cmp a c == some .lt) = true then d else a) t) else m y) → News h₀ L h news → Q .next { s with heap := h, toks := tk })
    (hk : scope.kind = .function := by rfl) (hl : (envOf name scope L b cd).kindOf x = some .local := by rfl) (hd : (x == ("__debug__" : Str)) = false := by decide) :
    wpAny (model prog w) A (exec (.If (.Compare (.Name x p1) [.Lt] [.Constant (.float c) k1 p2] p3) [.Assign [.Name x p4] (.Constant (.float d) k2 p5) q] [] pos) (envOf name scope L b cd)) Q E s := by
  refine if_float (h₀ := h₀) (L := L) (news := news) (c := (Float64.cmp a c == some .lt)) (v := d) hold ?_ ?_ h
  · refine wpAny_isTrue_Compare1 (ld F hold (wpAny_Constant_float (AutoFloatOps.lt_0 ?_)) hk hl hd)
    exact fun _ _ _ => ⟨rfl, _, _, rfl, F, N⟩
  · intro h' tk F' N'
    refine wpAny_Assign_Name (wpAny_Constant_float ?_)
    exact stN F' N' (fun h'' F'' N'' => ⟨rfl, _, _, _, rfl, F'', N''⟩) hk hl
theorem clip_gt (F : Fr h₀ L s.heap m) (N : News h₀ L s.heap news) (hold : m x = some (.float a t₀))
    (h : ∀ (h : Heap) (tk : Nat) (t : Tok), Fr h₀ L h (fun y => if y = x then some (.float (if (Float64.cmp a c == some .gt) = true then d else a) t) else m y) → News h₀ L h news → Q .next { s with heap := h, toks := tk })
    (hk : scope.kind = .function := by rfl) (hl : (envOf name scope L b cd).kindOf x = some .local := by rfl) (hd : (x == ("__debug__" : Str)) = false := by decide) :
    wpAny (model prog w) A (exec (.If (.Compare (.Name x p1) [.Gt] [.Constant (.float c) k1 p2] p3) [.Assign [.Name x p4] (.Constant (.float d) k2 p5) q] [] pos) (envOf name scope L b cd)) Q E s := by
  refine if_float (h₀ := h₀) (L := L) (news := news) (c := (Float64.cmp a c == some .gt)) (v := d) hold ?_ ?_ h
  · refine wpAny_isTrue_Compare1 (ld F hold (wpAny_Constant_float (AutoFloatOps.gt_0 ?_)) hk hl hd)
    exact fun _ _ _ => ⟨rfl, _, _, rfl, F, N⟩
  · intro h' tk F' N'
    refine wpAny_Assign_Name (wpAny_Constant_float ?_)
    exact stN F' N' (fun h'' F'' N'' => ⟨rfl, _, _, _, rfl, F'', N''⟩) hk hl
end

noncomputable def yiqY (r g b : UInt64) : UInt64 := Float64.add (Float64.add (Float64.mul 4599075939470750515 r) (Float64.mul 4603489467105573601 g)) (Float64.mul 4592590756007337001 b)
noncomputable def yiqI (r b y : UInt64) : UInt64 := Float64.sub (Float64.mul 4604840546993784750 (Float64.sub r y)) (Float64.mul 4598535507515466056 (Float64.sub b y))
noncomputable def yiqQ (r b y : UInt64) : UInt64 := Float64.add (Float64.mul 4602318531202457272 (Float64.sub r y)) (Float64.mul 4601057523306793533 (Float64.sub b y))

theorem yiq_c (w mean mg mb) (r g b : UInt64) (t1 t2 t3 : Tok) : Ctr w mean mg mb 55 [.float r t1, .float g t2, .float b t3] [] 1 (PTup3 (yiqY r g b) (yiqI r b (yiqY r g b)) (yiqQ r b (yiqY r g b)) fun _ _ _ => True) := by
  have hB : Bnd [(Str.ofString "b", .float b t3), (Str.ofString "g", .float g t2), (Str.ofString "r", .float r t1)] := trivial
  k_extra "mine start"
  k_steps
  k_extra "mine tup3"
  trivial

theorem ksetP03_2 : True := by
  k_with "mine:exec If" => (k_here; first
    | ((with_reducible show wpAny _ _ (exec (Stmt.If (Expr.Compare (Expr.Name _ _) [CmpOp.Lt] [Expr.Constant (Const.float _) _ _] _) [Stmt.Assign [Expr.Name _ _] (Expr.Constant (Const.float _) _ _) _] [] _) _) _ _ _);
       k_dflt (refine' clip_lt ?mk1 ?mk2 ?mk3 ?_ ?mk4 ?mk5 ?mk6; (case mk1 => k_asm); (case mk2 => k_asm); (case mk3 => with_unfolding_all rfl); (case mk4 => rfl); (case mk5 => rfl); (case mk6 => decide)); intro h'w tk'w t'w F'w N'w; (try k_sweep))
    | ((with_reducible show wpAny _ _ (exec (Stmt.If (Expr.Compare (Expr.Name _ _) [CmpOp.Gt] [Expr.Constant (Const.float _) _ _] _) [Stmt.Assign [Expr.Name _ _] (Expr.Constant (Const.float _) _ _) _] [] _) _) _ _ _);
       k_dflt (refine' clip_gt ?mk1 ?mk2 ?mk3 ?_ ?mk4 ?mk5 ?mk6; (case mk1 => k_asm); (case mk2 => k_asm); (case mk3 => with_unfolding_all rfl); (case mk4 => rfl); (case mk5 => rfl); (case mk6 => decide)); intro h'w tk'w t'w F'w N'w; (try k_sweep)))
  trivial

noncomputable def clipF (x : UInt64) : UInt64 := if (Float64.cmp (if (Float64.cmp x 0 == some .lt) = true then 0 else x) 4607182418800017408 == some .gt) = true then 4607182418800017408 else (if (Float64.cmp x 0 == some .lt) = true then 0 else x)
noncomputable def rgbR (y i q : UInt64) : UInt64 := Float64.add (Float64.add y (Float64.mul 4606703976345377586 i)) (Float64.mul 4603791717925830846 q)
noncomputable def rgbG (y i q : UInt64) : UInt64 := Float64.sub (Float64.sub y (Float64.mul 4598621754083818298 i)) (Float64.mul 4603901015759978483 q)
noncomputable def rgbB (y i q : UInt64) : UInt64 := Float64.add (Float64.sub y (Float64.mul 4607671262177584182 i)) (Float64.mul 4610375502138591871 q)
theorem rgb_c (w mean mg mb) (y i q : UInt64) (t1 t2 t3 : Tok) : Ctr w mean mg mb 62 [.float y t1, .float i t2, .float q t3] [] 1 (PTup3 (clipF (rgbR y i q)) (clipF (rgbG y i q)) (clipF (rgbB y i q)) fun _ _ _ => True) := by
  have hB : Bnd [(Str.ofString "q", .float q t3), (Str.ofString "i", .float i t2), (Str.ofString "y", .float y t1)] := trivial
  k_extra "mine start"
  k_steps
  k_extra "mine tup3"
  trivial
end
section
theorem ksetP04_5 : True := by
  k_with_none
  k_with "mine enter" => (refine' code_defP ?mkb ?mk1 ?mk2 ?mk3 ?mk4 ?mk5 ?mkA ?mkF ?mkK ?mk6 ?mk7 ?mk8 ?mk9 ?mkB ?_ ?mc2 ?mc3 ?mc4 ?mc5; (case mkb => assumption); (case mkA => exact rfl); (case mkF => exact rfl); (case mkK => assumption); (case mk1 => k_asm); (case mk2 => k_asm); (case mk3 => k_asm); (case mk4 => k_asm); (case mk5 => k_asm); (case mk6 => k_is); (case mk7 => k_is); (case mk8 => ktr_room); (case mk9 => exact BindsTo.of_eq rfl); (case mc5 => decide); (case mkB => exact locs rfl); (case mc2 => exact rfl); (case mc3 => exact rfl); (case mc4 => exact rfl); k_whole; intro g'w L'w h'w hH'w FG'w F'w N'w B'w X'w T'w; (try simp only [List.reverse_cons, List.reverse_nil, List.nil_append, List.cons_append, List.length_cons, List.length_nil]); (try dsimp only); (try k_lift B'w); (try k_fold); refine cut ?_; intro qq'w hq'w; refine letA ?_; intro A1'w)
  k_with "mine start" => (w_top off; dsimp only [Ctr]; k_fill; intros; refine wpAny_call ?_; k_dflt (k_extra "mine enter"))
  k_with "mine keeps" => (refine' keeps_of ?mq1 ?mq2 ?mq3 ?mq4 ?mq5; (case mq1 => with_reducible assumption); (case mq2 => with_reducible assumption); (case mq3 => with_reducible assumption); (case mq4 => with_reducible assumption); (case mq5 => lcg_sub))
  k_with "mine off" => (first | exact List.forall_mem_nil _ | (refine List.forall_mem_cons.mpr ⟨?ma, ?mb⟩; (case ma => k_ne); (case mb => k_extra "mine off")))
  k_with "mine fresh" => (refine' fresh_of ?mq1 ?mq2 ?mq3 ?mq4; (case mq1 => with_reducible assumption); (case mq2 => with_reducible assumption); (case mq3 => k_mem); (case mq4 => k_extra "mine off"))
  k_with "mine ret" => ((rename RetOf _ _ _ => hR'w); refine' RetOf.at hR'w ?mkk ?_; (case mkk => k_extra "mine keeps"))
  k_with "mine tup3" => (k_extra "mine ret"; refine' ⟨_, _, _, _, rfl, ?mkf, ?mkg, ?_⟩; (case mkg => exact News.get (by with_reducible assumption) (by k_mem)); (case mkf => k_extra "mine fresh"))
  k_with "mine:execs cons" => (k_here; first | (refine' execs_cutL ?mhs ?mF ?mN ?_; (case mhs => first | (dsimp only; exact rfl) | dsimp only | exact rfl); (case mF => k_asm); (case mN => k_asm); intro m1'w n1'w F1'w N1'w q'w hq'w; try dsimp only at F1'w N1'w) | (refine' execs_cut ?_; intro q'w hq'w))
  k_with "mine:execs cons" => (k_here; (with_reducible show wpAny _ _ _ _ _ (Shared.mk _ _ _ (_ + _) _)); refine' gen_toks ?mhX ?_; (case mhX => omega); intro tk'w htk'w)
  k_with "mine:execs nil" => (k_here; (with_reducible show wpAny _ _ _ _ _ (Shared.mk _ _ _ (_ + _) _)); refine' gen_toks ?mhX ?_; (case mhX => omega); intro tk'w htk'w)
  k_with "mine units" => ((have hcL9 := cLine_is); (try simp +zetaDelta only [units_in1, units_deeper, Around.mark_units, units_caller]); (try dsimp +zetaDelta only [ktrTop]); omega)
  k_with "mine step" => (first | (k_unfold; (try dsimp only)) | (k_end; wrow_close) | walk1 | (dsimp only; walk1) | (leave1; walk_say "STEP leave1"; try dsimp only))
  k_with "mine ne" => (first | with_reducible assumption | (refine Ne.symm ?_; with_reducible assumption) | (refine Nat.ne_of_lt ?_; with_reducible assumption) | (refine Nat.ne_of_gt ?_; with_reducible assumption) | (refine neN ?_; (try dsimp only); (try simp only [ne_eq]); omega))
  k_with "mine:Held" => (refine Held.go (by with_reducible assumption) ?_; try dsimp only)
  k_with "mine offs" => (k_dflt ((rename LCg.Off1 _ _ => hq'w); refine Off1c.of hq'w ?_; clear hq'w; (repeat intro o2'w); refine ⟨?_⟩))
  k_with "mine:FinE" => ((unfold LCg.FinE); intro D'w h'w tk'w F'w N'w o1'w; (try simp only [List.nil_append, List.cons_append] at N'w o1'w); k_extra "mine offs"; (try dsimp only))
  k_with "mine:CompRest" => (with_unfolding_all first
    | (refine LCg.CompRest.succ ?_; intro v'w I'w oI'w C'w oC'w D'w m'w h'w tk'w E'w hv'w hC'w hx'w F'w N'w off'w ne'w; (first | lcg_open hv'w | (obtain ⟨t9'w, hv9'w⟩ := hv'w; subst hv9'w)); refine cut ?_; intro q4'w hq4'w)
    | refine LCg.CompRest.zero ?_)
  k_with "mine:CompRestT" => (with_unfolding_all first
    | (refine LCt.CompRestT.succ ?_; intro v'w I'w oI'w C'w oC'w D'w m'w h'w tk'w E'w hv'w hC'w hx'w F'w N'w off'w ne'w; (first | lcg_open hv'w | (obtain ⟨t9'w, hv9'w⟩ := hv'w; subst hv9'w)))
    | refine LCt.CompRestT.zero ?_)
  k_with "mine:CompEnd" => (refine LCg.CompEnd.intro (by k_asm) (by k_asm) _ (fun _ hp => hp) (by with_reducible assumption) (by lcg_src) ?_)
  k_with "mine arith" => (first | exact Nat.succ_pos _ | with_reducible assumption | (with_reducible exact ar_r0 (by assumption)) | (with_reducible exact ar_r2 (by assumption) (by decide)) | (with_reducible exact ar_r1 (by assumption) (by decide)) | (with_reducible exact ar_absC (by assumption) (by decide)) | (with_reducible exact ar_abs (by assumption) (by assumption) (by decide)) | (with_reducible exact ar_absN (by assumption) (by decide)) | (with_reducible exact ar_absM) | (with_reducible exact ar_absL (by assumption) (by decide)) | (with_reducible exact ar_cle (by assumption) (by decide)) | (with_reducible exact Int.natCast_nonneg _) | (with_reducible exact ar_min0) | (with_reducible exact ar_min1 (by decide)) | (with_reducible exact ar_sc (by assumption) (by decide)) | (with_reducible exact Nat.le_trans (by assumption) (by decide)) | decide)
  k_with "mine mem" => (first | exact memk 0 rfl | exact memk 1 rfl | exact memk 2 rfl | exact memk 3 rfl | exact memk 4 rfl | exact memk 5 rfl | exact memk 6 rfl | exact memk 7 rfl | exact memk 8 rfl | exact memk 9 rfl | exact memk 10 rfl | exact memk 11 rfl | exact memk 12 rfl | exact memk 13 rfl | exact memk 14 rfl | exact memk 15 rfl | exact memk 16 rfl | exact memk 17 rfl | exact memk 18 rfl | exact memk 19 rfl)
  k_with "mine same" => ((repeat (rename (¬ _) ∧ _ => hz'w; have hz1'w := And.left hz'w; have hz2'w := And.right hz'w; clear hz'w)); (repeat (first | with_reducible rfl | (refine (if_neg (by assumption)).trans ?_))))
  trivial
noncomputable def hueF (r g b hi lo : UInt64) : UInt64 :=
  (Float64.divmod (Float64.div
    (if (Float64.cmp r hi == some .eq) = true then Float64.sub (Float64.div (Float64.sub hi b) (Float64.sub hi lo)) (Float64.div (Float64.sub hi g) (Float64.sub hi lo))
     else if (Float64.cmp g hi == some .eq) = true then Float64.sub (Float64.add 4611686018427387904 (Float64.div (Float64.sub hi r) (Float64.sub hi lo))) (Float64.div (Float64.sub hi b) (Float64.sub hi lo))
     else Float64.sub (Float64.add 4616189618054758400 (Float64.div (Float64.sub hi g) (Float64.sub hi lo))) (Float64.div (Float64.sub hi r) (Float64.sub hi lo)))
    4618441417868443648) 4607182418800017408).snd
noncomputable def greyF (r g b : UInt64) : Bool := Float64.cmp (fmin3 r g b) (fmax3 r g b) == some .eq
noncomputable def hueT (r g b : UInt64) : UInt64 := if greyF r g b = true then 0 else hueF r g b (fmax3 r g b) (fmin3 r g b)
noncomputable def hsvS (r g b : UInt64) : UInt64 := if greyF r g b = true then 0 else Float64.div (Float64.sub (fmax3 r g b) (fmin3 r g b)) (fmax3 r g b)
noncomputable def hlsL (r g b : UInt64) : UInt64 := Float64.div (Float64.add (fmax3 r g b) (fmin3 r g b)) 4611686018427387904
noncomputable def lowF (r g b : UInt64) : Bool := (Float64.cmp (hlsL r g b) 4602678819172646912 == some .lt || Float64.cmp (hlsL r g b) 4602678819172646912 == some .eq)
noncomputable def hlsD (r g b : UInt64) : UInt64 := if lowF r g b = true then Float64.add (fmax3 r g b) (fmin3 r g b) else Float64.sub (Float64.sub 4611686018427387904 (fmax3 r g b)) (fmin3 r g b)
noncomputable def hlsS (r g b : UInt64) : UInt64 := if greyF r g b = true then 0 else Float64.div (Float64.sub (fmax3 r g b) (fmin3 r g b)) (hlsD r g b)
/-- the divisors are not nought -/
noncomputable def hsvZ (r g b : UInt64) : Bool := greyF r g b || (!Float64.isZero (fmax3 r g b) && !Float64.isZero (Float64.sub (fmax3 r g b) (fmin3 r g b)))
noncomputable def hlsZ (r g b : UInt64) : Bool := greyF r g b || (!Float64.isZero (hlsD r g b) && !Float64.isZero (Float64.sub (fmax3 r g b) (fmin3 r g b)))

theorem ksetP04_4 : True := by
  k_with "mine:call builtin:max" => (k_here; (with_reducible show wpAny _ _ (call (Value.builtin "max") [Value.float _ _, Value.float _ _, Value.float _ _]) _ _ _); (with_reducible refine' max3_f ?mkh ?mk1 ?mk2 ?_); (case mk1 => k_asm); (case mk2 => k_asm); (case mkh => k_dflt rfl); intro h'w tk'w t'w F'w N'w; (try k_sweep))
  k_with "mine:call builtin:min" => (k_here; (with_reducible show wpAny _ _ (call (Value.builtin "min") [Value.float _ _, Value.float _ _, Value.float _ _]) _ _ _); (with_reducible refine' min3_f ?mkh ?mk1 ?mk2 ?_); (case mk1 => k_asm); (case mk2 => k_asm); (case mkh => k_dflt rfl); intro h'w tk'w t'w F'w N'w; (try k_sweep))
  k_with "mine:binaryOp Div float float" => (k_here; (with_reducible refine' divFF_r ?mkz ?mkh ?_); (case mkz => first | with_reducible assumption | (decide +kernel)); (case mkh => k_dflt rfl); intro t'w)
  k_with "mine:binaryOp Mod float float" => (k_here; (with_reducible refine' modFF_r ?mkz ?mkh ?_); (case mkz => first | with_reducible assumption | (decide +kernel)); (case mkh => k_dflt rfl); intro t'w)
  k_with "mine:ite" => (k_here; first
    | (with_reducible refine ite_neg (Bool.eq_false_iff.mp (by assumption)) ?_)
    | (with_reducible refine ite_pos (by assumption) ?_))
  trivial

theorem hsv_c (w mean mg mb) (r g b : UInt64) (t1 t2 t3 : Tok) (hz : hsvZ r g b = true) : Ctr w mean mg mb 76 [.float r t1, .float g t2, .float b t3] [] 1 (PTup3 (hueT r g b) (hsvS r g b) (fmax3 r g b) fun u1 u2 _ => greyF r g b = true → u1 ≠ 0 ∧ u2 ≠ 0) := by
  have hB : Bnd [(Str.ofString "b", .float b t3), (Str.ofString "g", .float g t2), (Str.ofString "r", .float r t1)] := trivial
  cases e : greyF r g b
  · have c : (Float64.cmp (fmin3 r g b) (fmax3 r g b) == some Ordering.eq) = false := e
    simp only [hsvZ, e, Bool.false_or, Bool.and_eq_true, Bool.not_eq_true'] at hz
    obtain ⟨z1, z2⟩ := hz
    simp only [hueT, hueF, hsvS, e, ↓reduceIte, Bool.false_eq_true]
    k_extra "mine start"
    rename RetOf _ _ _ => hret
    k_steps
    all_goals first
    | (simp only [‹(Float64.cmp r (fmax3 r g b) == some Ordering.eq) = true›, ↓reduceIte] at hret
       k_extra "mine tup3"
       exact fun k => k.elim)
    | (simp only [‹(Float64.cmp r (fmax3 r g b) == some Ordering.eq) = false›, ‹(Float64.cmp g (fmax3 r g b) == some Ordering.eq) = true›, ↓reduceIte, Bool.false_eq_true] at hret
       k_extra "mine tup3"
       exact fun k => k.elim)
    | (simp only [‹(Float64.cmp r (fmax3 r g b) == some Ordering.eq) = false›, ‹(Float64.cmp g (fmax3 r g b) == some Ordering.eq) = false›, ↓reduceIte, Bool.false_eq_true] at hret
       k_extra "mine tup3"
       exact fun k => k.elim)
  · have c : (Float64.cmp (fmin3 r g b) (fmax3 r g b) == some Ordering.eq) = true := e
    simp only [hueT, hsvS, e, ↓reduceIte]
    k_extra "mine start"
    k_steps
    k_extra "mine tup3"
    exact fun _ => ⟨neN (by (try dsimp only); omega), neN (by (try dsimp only); omega)⟩
end
section
theorem ksetP05_7 : True := by
  k_with_none
  k_with "mine enter" => (refine' code_defP ?mkb ?mk1 ?mk2 ?mk3 ?mk4 ?mk5 ?mkA ?mkF ?mkK ?mk6 ?mk7 ?mk8 ?mk9 ?mkB ?_ ?mc2 ?mc3 ?mc4 ?mc5; (case mkb => assumption); (case mkA => exact rfl); (case mkF => exact rfl); (case mkK => assumption); (case mk1 => k_asm); (case mk2 => k_asm); (case mk3 => k_asm); (case mk4 => k_asm); (case mk5 => k_asm); (case mk6 => k_is); (case mk7 => k_is); (case mk8 => ktr_room); (case mk9 => exact BindsTo.of_eq rfl); (case mc5 => decide); (case mkB => exact locs rfl); (case mc2 => exact rfl); (case mc3 => exact rfl); (case mc4 => exact rfl); k_whole; intro g'w L'w h'w hH'w FG'w F'w N'w B'w X'w T'w; (try simp only [List.reverse_cons, List.reverse_nil, List.nil_append, List.cons_append, List.length_cons, List.length_nil]); (try dsimp only); (try k_lift B'w); (try k_fold); refine cut ?_; intro qq'w hq'w; refine letA ?_; intro A1'w)
  k_with "mine start" => (w_top off; dsimp only [Ctr]; k_fill; intros; refine wpAny_call ?_; k_dflt (k_extra "mine enter"))
  k_with "mine keeps" => (refine' keeps_of ?mq1 ?mq2 ?mq3 ?mq4 ?mq5; (case mq1 => with_reducible assumption); (case mq2 => with_reducible assumption); (case mq3 => with_reducible assumption); (case mq4 => with_reducible assumption); (case mq5 => lcg_sub))
  k_with "mine off" => (first | exact List.forall_mem_nil _ | (refine List.forall_mem_cons.mpr ⟨?ma, ?mb⟩; (case ma => k_ne); (case mb => k_extra "mine off")))
  k_with "mine fresh" => (refine' fresh_of ?mq1 ?mq2 ?mq3 ?mq4; (case mq1 => with_reducible assumption); (case mq2 => with_reducible assumption); (case mq3 => k_mem); (case mq4 => k_extra "mine off"))
  k_with "mine ret" => ((rename RetOf _ _ _ => hR'w); refine' RetOf.at hR'w ?mkk ?_; (case mkk => k_extra "mine keeps"))
  k_with "mine tup3" => (k_extra "mine ret"; refine' ⟨_, _, _, _, rfl, ?mkf, ?mkg, ?_⟩; (case mkg => exact News.get (by with_reducible assumption) (by k_mem)); (case mkf => k_extra "mine fresh"))
  k_with "mine:execs cons" => (k_here; first | (refine' execs_cutL ?mhs ?mF ?mN ?_; (case mhs => first | (dsimp only; exact rfl) | dsimp only | exact rfl); (case mF => k_asm); (case mN => k_asm); intro m1'w n1'w F1'w N1'w q'w hq'w; try dsimp only at F1'w N1'w) | (refine' execs_cut ?_; intro q'w hq'w))
  k_with "mine:execs cons" => (k_here; (with_reducible show wpAny _ _ _ _ _ (Shared.mk _ _ _ (_ + _) _)); refine' gen_toks ?mhX ?_; (case mhX => omega); intro tk'w htk'w)
  k_with "mine:execs nil" => (k_here; (with_reducible show wpAny _ _ _ _ _ (Shared.mk _ _ _ (_ + _) _)); refine' gen_toks ?mhX ?_; (case mhX => omega); intro tk'w htk'w)
  k_with "mine units" => ((have hcL9 := cLine_is); (try simp +zetaDelta only [units_in1, units_deeper, Around.mark_units, units_caller]); (try dsimp +zetaDelta only [ktrTop]); omega)
  k_with "mine step" => (first | (k_unfold; (try dsimp only)) | (k_end; wrow_close) | walk1 | (dsimp only; walk1) | (leave1; walk_say "STEP leave1"; try dsimp only))
  k_with "mine ne" => (first | with_reducible assumption | (refine Ne.symm ?_; with_reducible assumption) | (refine Nat.ne_of_lt ?_; with_reducible assumption) | (refine Nat.ne_of_gt ?_; with_reducible assumption) | (refine neN ?_; (try dsimp only); (try simp only [ne_eq]); omega))
  k_with "mine:Held" => (refine Held.go (by with_reducible assumption) ?_; try dsimp only)
  k_with "mine offs" => (k_dflt ((rename LCg.Off1 _ _ => hq'w); refine Off1c.of hq'w ?_; clear hq'w; (repeat intro o2'w); refine ⟨?_⟩))
  k_with "mine:FinE" => ((unfold LCg.FinE); intro D'w h'w tk'w F'w N'w o1'w; (try simp only [List.nil_append, List.cons_append] at N'w o1'w); k_extra "mine offs"; (try dsimp only))
  k_with "mine:CompRest" => (with_unfolding_all first
    | (refine LCg.CompRest.succ ?_; intro v'w I'w oI'w C'w oC'w D'w m'w h'w tk'w E'w hv'w hC'w hx'w F'w N'w off'w ne'w; (first | lcg_open hv'w | (obtain ⟨t9'w, hv9'w⟩ := hv'w; subst hv9'w)); refine cut ?_; intro q4'w hq4'w)
    | refine LCg.CompRest.zero ?_)
  k_with "mine:CompRestT" => (with_unfolding_all first
    | (refine LCt.CompRestT.succ ?_; intro v'w I'w oI'w C'w oC'w D'w m'w h'w tk'w E'w hv'w hC'w hx'w F'w N'w off'w ne'w; (first | lcg_open hv'w | (obtain ⟨t9'w, hv9'w⟩ := hv'w; subst hv9'w)))
    | refine LCt.CompRestT.zero ?_)
  k_with "mine:CompEnd" => (refine LCg.CompEnd.intro (by k_asm) (by k_asm) _ (fun _ hp => hp) (by with_reducible assumption) (by lcg_src) ?_)
  k_with "mine arith" => (first | exact Nat.succ_pos _ | with_reducible assumption | (with_reducible exact ar_r0 (by assumption)) | (with_reducible exact ar_r2 (by assumption) (by decide)) | (with_reducible exact ar_r1 (by assumption) (by decide)) | (with_reducible exact ar_absC (by assumption) (by decide)) | (with_reducible exact ar_abs (by assumption) (by assumption) (by decide)) | (with_reducible exact ar_absN (by assumption) (by decide)) | (with_reducible exact ar_absM) | (with_reducible exact ar_absL (by assumption) (by decide)) | (with_reducible exact ar_cle (by assumption) (by decide)) | (with_reducible exact Int.natCast_nonneg _) | (with_reducible exact ar_min0) | (with_reducible exact ar_min1 (by decide)) | (with_reducible exact ar_sc (by assumption) (by decide)) | (with_reducible exact Nat.le_trans (by assumption) (by decide)) | decide)
  k_with "mine mem" => (first | exact memk 0 rfl | exact memk 1 rfl | exact memk 2 rfl | exact memk 3 rfl | exact memk 4 rfl | exact memk 5 rfl | exact memk 6 rfl | exact memk 7 rfl | exact memk 8 rfl | exact memk 9 rfl | exact memk 10 rfl | exact memk 11 rfl | exact memk 12 rfl | exact memk 13 rfl | exact memk 14 rfl | exact memk 15 rfl | exact memk 16 rfl | exact memk 17 rfl | exact memk 18 rfl | exact memk 19 rfl)
  k_with "mine same" => ((repeat (rename (¬ _) ∧ _ => hz'w; have hz1'w := And.left hz'w; have hz2'w := And.right hz'w; clear hz'w)); (repeat (first | with_reducible rfl | (refine (if_neg (by assumption)).trans ?_))))
  trivial
theorem ksetP05_6 : True := by
  k_with "mine:call builtin:max" => (k_here; (with_reducible show wpAny _ _ (call (Value.builtin "max") [Value.float _ _, Value.float _ _, Value.float _ _]) _ _ _); (with_reducible refine' max3_f ?mkh ?mk1 ?mk2 ?_); (case mk1 => k_asm); (case mk2 => k_asm); (case mkh => k_dflt rfl); intro h'w tk'w t'w F'w N'w; (try k_sweep))
  k_with "mine:call builtin:min" => (k_here; (with_reducible show wpAny _ _ (call (Value.builtin "min") [Value.float _ _, Value.float _ _, Value.float _ _]) _ _ _); (with_reducible refine' min3_f ?mkh ?mk1 ?mk2 ?_); (case mk1 => k_asm); (case mk2 => k_asm); (case mkh => k_dflt rfl); intro h'w tk'w t'w F'w N'w; (try k_sweep))
  k_with "mine:binaryOp Div float float" => (k_here; (with_reducible refine' divFF_r ?mkz ?mkh ?_); (case mkz => first | with_reducible assumption | (decide +kernel)); (case mkh => k_dflt rfl); intro t'w)
  k_with "mine:binaryOp Mod float float" => (k_here; (with_reducible refine' modFF_r ?mkz ?mkh ?_); (case mkz => first | with_reducible assumption | (decide +kernel)); (case mkh => k_dflt rfl); intro t'w)
  k_with "mine:ite" => (k_here; first
    | (with_reducible refine ite_neg (Bool.eq_false_iff.mp (by assumption)) ?_)
    | (with_reducible refine ite_pos (by assumption) ?_))
  trivial

theorem hls_c (w mean mg mb) (r g b : UInt64) (t1 t2 t3 : Tok) (hz : hlsZ r g b = true) : Ctr w mean mg mb 69 [.float r t1, .float g t2, .float b t3] [] 1 (PTup3 (hueT r g b) (hlsL r g b) (hlsS r g b) fun u1 _ u3 => greyF r g b = true → u1 ≠ 0 ∧ u3 ≠ 0) := by
  have hB : Bnd [(Str.ofString "b", .float b t3), (Str.ofString "g", .float g t2), (Str.ofString "r", .float r t1)] := trivial
  cases e : greyF r g b
  · have c : (Float64.cmp (fmin3 r g b) (fmax3 r g b) == some Ordering.eq) = false := e
    simp only [hlsZ, e, Bool.false_or, Bool.and_eq_true, Bool.not_eq_true'] at hz
    cases l : lowF r g b
    · have l' : (Float64.cmp (Float64.div (Float64.add (fmax3 r g b) (fmin3 r g b)) 4611686018427387904) 4602678819172646912 == some Ordering.lt || Float64.cmp (Float64.div (Float64.add (fmax3 r g b) (fmin3 r g b)) 4611686018427387904) 4602678819172646912 == some Ordering.eq) = false := l
      simp only [hlsD, l, ↓reduceIte, Bool.false_eq_true] at hz
      obtain ⟨z1, z2⟩ := hz
      simp only [hueT, hueF, hlsS, hlsD, hlsL, e, l, ↓reduceIte, Bool.false_eq_true]
      k_extra "mine start"
      rename RetOf _ _ _ => hret
      k_steps
      all_goals first
      | (simp only [‹(Float64.cmp r (fmax3 r g b) == some Ordering.eq) = true›, ↓reduceIte] at hret
         k_extra "mine tup3"
         exact fun k => k.elim)
      | (simp only [‹(Float64.cmp r (fmax3 r g b) == some Ordering.eq) = false›, ‹(Float64.cmp g (fmax3 r g b) == some Ordering.eq) = true›, ↓reduceIte, Bool.false_eq_true] at hret
         k_extra "mine tup3"
         exact fun k => k.elim)
      | (simp only [‹(Float64.cmp r (fmax3 r g b) == some Ordering.eq) = false›, ‹(Float64.cmp g (fmax3 r g b) == some Ordering.eq) = false›, ↓reduceIte, Bool.false_eq_true] at hret
         k_extra "mine tup3"
         exact fun k => k.elim)
    · have l' : (Float64.cmp (Float64.div (Float64.add (fmax3 r g b) (fmin3 r g b)) 4611686018427387904) 4602678819172646912 == some Ordering.lt || Float64.cmp (Float64.div (Float64.add (fmax3 r g b) (fmin3 r g b)) 4611686018427387904) 4602678819172646912 == some Ordering.eq) = true := l
      simp only [hlsD, l, ↓reduceIte, Bool.false_eq_true] at hz
      obtain ⟨z1, z2⟩ := hz
      simp only [hueT, hueF, hlsS, hlsD, hlsL, e, l, ↓reduceIte, Bool.false_eq_true]
      k_extra "mine start"
      rename RetOf _ _ _ => hret
      k_steps
      all_goals first
      | (simp only [‹(Float64.cmp r (fmax3 r g b) == some Ordering.eq) = true›, ↓reduceIte] at hret
         k_extra "mine tup3"
         exact fun k => k.elim)
      | (simp only [‹(Float64.cmp r (fmax3 r g b) == some Ordering.eq) = false›, ‹(Float64.cmp g (fmax3 r g b) == some Ordering.eq) = true›, ↓reduceIte, Bool.false_eq_true] at hret
         k_extra "mine tup3"
         exact fun k => k.elim)
      | (simp only [‹(Float64.cmp r (fmax3 r g b) == some Ordering.eq) = false›, ‹(Float64.cmp g (fmax3 r g b) == some Ordering.eq) = false›, ↓reduceIte, Bool.false_eq_true] at hret
         k_extra "mine tup3"
         exact fun k => k.elim)
  · have c : (Float64.cmp (fmin3 r g b) (fmax3 r g b) == some Ordering.eq) = true := e
    simp only [hueT, hlsL, hlsS, e, ↓reduceIte]
    k_extra "mine start"
    k_steps
    k_extra "mine tup3"
    exact fun _ => ⟨neN (by (try dsimp only); omega), neN (by (try dsimp only); omega)⟩
end
section
theorem ksetP06_8 : True := by
  k_with_none
  k_with "mine enter" => (refine' code_defP ?mkb ?mk1 ?mk2 ?mk3 ?mk4 ?mk5 ?mkA ?mkF ?mkK ?mk6 ?mk7 ?mk8 ?mk9 ?mkB ?_ ?mc2 ?mc3 ?mc4 ?mc5; (case mkb => assumption); (case mkA => exact rfl); (case mkF => exact rfl); (case mkK => assumption); (case mk1 => k_asm); (case mk2 => k_asm); (case mk3 => k_asm); (case mk4 => k_asm); (case mk5 => k_asm); (case mk6 => k_is); (case mk7 => k_is); (case mk8 => ktr_room); (case mk9 => exact BindsTo.of_eq rfl); (case mc5 => decide); (case mkB => exact locs rfl); (case mc2 => exact rfl); (case mc3 => exact rfl); (case mc4 => exact rfl); k_whole; intro g'w L'w h'w hH'w FG'w F'w N'w B'w X'w T'w; (try simp only [List.reverse_cons, List.reverse_nil, List.nil_append, List.cons_append, List.length_cons, List.length_nil]); (try dsimp only); (try k_lift B'w); (try k_fold); refine cut ?_; intro qq'w hq'w; refine letA ?_; intro A1'w)
  k_with "mine start" => (w_top off; dsimp only [Ctr]; k_fill; intros; refine wpAny_call ?_; k_dflt (k_extra "mine enter"))
  k_with "mine keeps" => (refine' keeps_of ?mq1 ?mq2 ?mq3 ?mq4 ?mq5; (case mq1 => with_reducible assumption); (case mq2 => with_reducible assumption); (case mq3 => with_reducible assumption); (case mq4 => with_reducible assumption); (case mq5 => lcg_sub))
  k_with "mine off" => (first | exact List.forall_mem_nil _ | (refine List.forall_mem_cons.mpr ⟨?ma, ?mb⟩; (case ma => k_ne); (case mb => k_extra "mine off")))
  k_with "mine fresh" => (refine' fresh_of ?mq1 ?mq2 ?mq3 ?mq4; (case mq1 => with_reducible assumption); (case mq2 => with_reducible assumption); (case mq3 => k_mem); (case mq4 => k_extra "mine off"))
  k_with "mine ret" => ((rename RetOf _ _ _ => hR'w); refine' RetOf.at hR'w ?mkk ?_; (case mkk => k_extra "mine keeps"))
  k_with "mine tup3" => (k_extra "mine ret"; refine' ⟨_, _, _, _, rfl, ?mkf, ?mkg, ?_⟩; (case mkg => exact News.get (by with_reducible assumption) (by k_mem)); (case mkf => k_extra "mine fresh"))
  k_with "mine:execs cons" => (k_here; first | (refine' execs_cutL ?mhs ?mF ?mN ?_; (case mhs => first | (dsimp only; exact rfl) | dsimp only | exact rfl); (case mF => k_asm); (case mN => k_asm); intro m1'w n1'w F1'w N1'w q'w hq'w; try dsimp only at F1'w N1'w) | (refine' execs_cut ?_; intro q'w hq'w))
  k_with "mine:execs cons" => (k_here; (with_reducible show wpAny _ _ _ _ _ (Shared.mk _ _ _ (_ + _) _)); refine' gen_toks ?mhX ?_; (case mhX => omega); intro tk'w htk'w)
  k_with "mine:execs nil" => (k_here; (with_reducible show wpAny _ _ _ _ _ (Shared.mk _ _ _ (_ + _) _)); refine' gen_toks ?mhX ?_; (case mhX => omega); intro tk'w htk'w)
  k_with "mine units" => ((have hcL9 := cLine_is); (try simp +zetaDelta only [units_in1, units_deeper, Around.mark_units, units_caller]); (try dsimp +zetaDelta only [ktrTop]); omega)
  k_with "mine step" => (first | (k_unfold; (try dsimp only)) | (k_end; wrow_close) | walk1 | (dsimp only; walk1) | (leave1; walk_say "STEP leave1"; try dsimp only))
  k_with "mine ne" => (first | with_reducible assumption | (refine Ne.symm ?_; with_reducible assumption) | (refine Nat.ne_of_lt ?_; with_reducible assumption) | (refine Nat.ne_of_gt ?_; with_reducible assumption) | (refine neN ?_; (try dsimp only); (try simp only [ne_eq]); omega))
  k_with "mine:Held" => (refine Held.go (by with_reducible assumption) ?_; try dsimp only)
  k_with "mine offs" => (k_dflt ((rename LCg.Off1 _ _ => hq'w); refine Off1c.of hq'w ?_; clear hq'w; (repeat intro o2'w); refine ⟨?_⟩))
  k_with "mine:FinE" => ((unfold LCg.FinE); intro D'w h'w tk'w F'w N'w o1'w; (try simp only [List.nil_append, List.cons_append] at N'w o1'w); k_extra "mine offs"; (try dsimp only))
  k_with "mine:CompRest" => (with_unfolding_all first
    | (refine LCg.CompRest.succ ?_; intro v'w I'w oI'w C'w oC'w D'w m'w h'w tk'w E'w hv'w hC'w hx'w F'w N'w off'w ne'w; (first | lcg_open hv'w | (obtain ⟨t9'w, hv9'w⟩ := hv'w; subst hv9'w)); refine cut ?_; intro q4'w hq4'w)
    | refine LCg.CompRest.zero ?_)
  k_with "mine:CompRestT" => (with_unfolding_all first
    | (refine LCt.CompRestT.succ ?_; intro v'w I'w oI'w C'w oC'w D'w m'w h'w tk'w E'w hv'w hC'w hx'w F'w N'w off'w ne'w; (first | lcg_open hv'w | (obtain ⟨t9'w, hv9'w⟩ := hv'w; subst hv9'w)))
    | refine LCt.CompRestT.zero ?_)
  k_with "mine:CompEnd" => (refine LCg.CompEnd.intro (by k_asm) (by k_asm) _ (fun _ hp => hp) (by with_reducible assumption) (by lcg_src) ?_)
  k_with "mine arith" => (first | exact Nat.succ_pos _ | with_reducible assumption | (with_reducible exact ar_r0 (by assumption)) | (with_reducible exact ar_r2 (by assumption) (by decide)) | (with_reducible exact ar_r1 (by assumption) (by decide)) | (with_reducible exact ar_absC (by assumption) (by decide)) | (with_reducible exact ar_abs (by assumption) (by assumption) (by decide)) | (with_reducible exact ar_absN (by assumption) (by decide)) | (with_reducible exact ar_absM) | (with_reducible exact ar_absL (by assumption) (by decide)) | (with_reducible exact ar_cle (by assumption) (by decide)) | (with_reducible exact Int.natCast_nonneg _) | (with_reducible exact ar_min0) | (with_reducible exact ar_min1 (by decide)) | (with_reducible exact ar_sc (by assumption) (by decide)) | (with_reducible exact Nat.le_trans (by assumption) (by decide)) | decide)
  k_with "mine mem" => (first | exact memk 0 rfl | exact memk 1 rfl | exact memk 2 rfl | exact memk 3 rfl | exact memk 4 rfl | exact memk 5 rfl | exact memk 6 rfl | exact memk 7 rfl | exact memk 8 rfl | exact memk 9 rfl | exact memk 10 rfl | exact memk 11 rfl | exact memk 12 rfl | exact memk 13 rfl | exact memk 14 rfl | exact memk 15 rfl | exact memk 16 rfl | exact memk 17 rfl | exact memk 18 rfl | exact memk 19 rfl)
  k_with "mine same" => ((repeat (rename (¬ _) ∧ _ => hz'w; have hz1'w := And.left hz'w; have hz2'w := And.right hz'w; clear hz'w)); (repeat (first | with_reducible rfl | (refine (if_neg (by assumption)).trans ?_))))
  trivial
noncomputable def nearB (x : UInt64) (i : Int) : Bool := Float64.isFinite (Float64.mul x (Float64.ofInt 1048576)) && decide (toInt Float64.nearestOf (Float64.mul x (Float64.ofInt 1048576)) = i * 1048576)
theorem fin_nan {x : UInt64} (h : Float64.isFinite x = true) (k : Float64.isNaN x = true) : False := by
  unfold Float64.isFinite at h; unfold Float64.isNaN at k
  cases e : Float64.decode x <;> simp [e] at h k
theorem fin_inf {x : UInt64} (h : Float64.isFinite x = true) (k : Float64.isInf x = true) : False := by
  unfold Float64.isFinite at h; unfold Float64.isInf at k
  cases e : Float64.decode x <;> simp [e] at h k
theorem nearB_iff {x : UInt64} {i : Int} (h : nearB x i = true) : Float64.isFinite (Float64.mul x (Float64.ofInt 1048576)) = true ∧ toInt Float64.nearestOf (Float64.mul x (Float64.ofInt 1048576)) = i * 1048576 := by
  unfold nearB at h
  rw [Bool.and_eq_true, decide_eq_true_eq] at h
  exact h
theorem near3_c (w mean mg mb) (l1 l2 : Addr) (n1 n2 : Nat) (x1 x2 x3 : UInt64) (t1 t2 t3 : Tok) (i1 i2 i3 : Int) (u1 u2 u3 : Tok) (k1 : nearB x1 i1 = true) (k2 : nearB x2 i2 = true) (k3 : nearB x3 i3 = true) :
    Ctr w mean mg mb 88 [.ref l1, .ref l2] [(l1, listOf #[.float x1 t1, .float x2 t2, .float x3 t3] n1), (l2, listOf #[.int i1 u1, .int i2 u2, .int i3 u3] n2)] 1 (PBool true) := by
  obtain ⟨f1, e1⟩ := nearB_iff k1
  obtain ⟨f2, e2⟩ := nearB_iff k2
  obtain ⟨f3, e3⟩ := nearB_iff k3
  have hB : Bnd [(Str.ofString "wholes", .ref l2), (Str.ofString "floats", .ref l1)] := trivial
  k_extra "mine start"
  k_steps
  all_goals first
  | exact (fin_nan f1 ‹_›).elim
  | exact (fin_inf f1 ‹_›).elim
  | exact (fin_nan f2 ‹_›).elim
  | exact (fin_inf f2 ‹_›).elim
  | exact (fin_nan f3 ‹_›).elim
  | exact (fin_inf f3 ‹_›).elim
  | (k_extra "mine ret"; unfold PBool; rw [e1, e2, e3, decide_eq_true rfl])
theorem near2_c (w mean mg mb) (l1 l2 : Addr) (n1 n2 : Nat) (x1 x2 : UInt64) (t1 t2 : Tok) (i1 i2 : Int) (u1 u2 : Tok) (k1 : nearB x1 i1 = true) (k2 : nearB x2 i2 = true) :
    Ctr w mean mg mb 88 [.ref l1, .ref l2] [(l1, listOf #[.float x1 t1, .float x2 t2] n1), (l2, listOf #[.int i1 u1, .int i2 u2] n2)] 1 (PBool true) := by
  obtain ⟨f1, e1⟩ := nearB_iff k1
  obtain ⟨f2, e2⟩ := nearB_iff k2
  have hB : Bnd [(Str.ofString "wholes", .ref l2), (Str.ofString "floats", .ref l1)] := trivial
  k_extra "mine start"
  k_steps
  all_goals first
  | exact (fin_nan f1 ‹_›).elim
  | exact (fin_inf f1 ‹_›).elim
  | exact (fin_nan f2 ‹_›).elim
  | exact (fin_inf f2 ‹_›).elim
  | (k_extra "mine ret"; unfold PBool; rw [e1, e2, decide_eq_true rfl])
end
section
theorem ksetP07_9 : True := by
  k_with_none
  k_with "mine enter" => (refine' code_defP ?mkb ?mk1 ?mk2 ?mk3 ?mk4 ?mk5 ?mkA ?mkF ?mkK ?mk6 ?mk7 ?mk8 ?mk9 ?mkB ?_ ?mc2 ?mc3 ?mc4 ?mc5; (case mkb => assumption); (case mkA => exact rfl); (case mkF => exact rfl); (case mkK => assumption); (case mk1 => k_asm); (case mk2 => k_asm); (case mk3 => k_asm); (case mk4 => k_asm); (case mk5 => k_asm); (case mk6 => k_is); (case mk7 => k_is); (case mk8 => ktr_room); (case mk9 => exact BindsTo.of_eq rfl); (case mc5 => decide); (case mkB => exact locs rfl); (case mc2 => exact rfl); (case mc3 => exact rfl); (case mc4 => exact rfl); k_whole; intro g'w L'w h'w hH'w FG'w F'w N'w B'w X'w T'w; (try simp only [List.reverse_cons, List.reverse_nil, List.nil_append, List.cons_append, List.length_cons, List.length_nil]); (try dsimp only); (try k_lift B'w); (try k_fold); refine cut ?_; intro qq'w hq'w; refine letA ?_; intro A1'w)
  k_with "mine start" => (w_top off; dsimp only [Ctr]; k_fill; intros; refine wpAny_call ?_; k_dflt (k_extra "mine enter"))
  k_with "mine keeps" => (refine' keeps_of ?mq1 ?mq2 ?mq3 ?mq4 ?mq5; (case mq1 => with_reducible assumption); (case mq2 => with_reducible assumption); (case mq3 => with_reducible assumption); (case mq4 => with_reducible assumption); (case mq5 => lcg_sub))
  k_with "mine off" => (first | exact List.forall_mem_nil _ | (refine List.forall_mem_cons.mpr ⟨?ma, ?mb⟩; (case ma => k_ne); (case mb => k_extra "mine off")))
  k_with "mine fresh" => (refine' fresh_of ?mq1 ?mq2 ?mq3 ?mq4; (case mq1 => with_reducible assumption); (case mq2 => with_reducible assumption); (case mq3 => k_mem); (case mq4 => k_extra "mine off"))
  k_with "mine ret" => ((rename RetOf _ _ _ => hR'w); refine' RetOf.at hR'w ?mkk ?_; (case mkk => k_extra "mine keeps"))
  k_with "mine tup3" => (k_extra "mine ret"; refine' ⟨_, _, _, _, rfl, ?mkf, ?mkg, ?_⟩; (case mkg => exact News.get (by with_reducible assumption) (by k_mem)); (case mkf => k_extra "mine fresh"))
  k_with "mine:execs cons" => (k_here; first | (refine' execs_cutL ?mhs ?mF ?mN ?_; (case mhs => first | (dsimp only; exact rfl) | dsimp only | exact rfl); (case mF => k_asm); (case mN => k_asm); intro m1'w n1'w F1'w N1'w q'w hq'w; try dsimp only at F1'w N1'w) | (refine' execs_cut ?_; intro q'w hq'w))
  k_with "mine:execs cons" => (k_here; (with_reducible show wpAny _ _ _ _ _ (Shared.mk _ _ _ (_ + _) _)); refine' gen_toks ?mhX ?_; (case mhX => omega); intro tk'w htk'w)
  k_with "mine:execs nil" => (k_here; (with_reducible show wpAny _ _ _ _ _ (Shared.mk _ _ _ (_ + _) _)); refine' gen_toks ?mhX ?_; (case mhX => omega); intro tk'w htk'w)
  k_with "mine units" => ((have hcL9 := cLine_is); (try simp +zetaDelta only [units_in1, units_deeper, Around.mark_units, units_caller]); (try dsimp +zetaDelta only [ktrTop]); omega)
  k_with "mine step" => (first | (k_unfold; (try dsimp only)) | (k_end; wrow_close) | walk1 | (dsimp only; walk1) | (leave1; walk_say "STEP leave1"; try dsimp only))
  k_with "mine ne" => (first | with_reducible assumption | (refine Ne.symm ?_; with_reducible assumption) | (refine Nat.ne_of_lt ?_; with_reducible assumption) | (refine Nat.ne_of_gt ?_; with_reducible assumption) | (refine neN ?_; (try dsimp only); (try simp only [ne_eq]); omega))
  k_with "mine:Held" => (refine Held.go (by with_reducible assumption) ?_; try dsimp only)
  k_with "mine offs" => (k_dflt ((rename LCg.Off1 _ _ => hq'w); refine Off1c.of hq'w ?_; clear hq'w; (repeat intro o2'w); refine ⟨?_⟩))
  k_with "mine:FinE" => ((unfold LCg.FinE); intro D'w h'w tk'w F'w N'w o1'w; (try simp only [List.nil_append, List.cons_append] at N'w o1'w); k_extra "mine offs"; (try dsimp only))
  k_with "mine:CompRest" => (with_unfolding_all first
    | (refine LCg.CompRest.succ ?_; intro v'w I'w oI'w C'w oC'w D'w m'w h'w tk'w E'w hv'w hC'w hx'w F'w N'w off'w ne'w; (first | lcg_open hv'w | (obtain ⟨t9'w, hv9'w⟩ := hv'w; subst hv9'w)); refine cut ?_; intro q4'w hq4'w)
    | refine LCg.CompRest.zero ?_)
  k_with "mine:CompRestT" => (with_unfolding_all first
    | (refine LCt.CompRestT.succ ?_; intro v'w I'w oI'w C'w oC'w D'w m'w h'w tk'w E'w hv'w hC'w hx'w F'w N'w off'w ne'w; (first | lcg_open hv'w | (obtain ⟨t9'w, hv9'w⟩ := hv'w; subst hv9'w)))
    | refine LCt.CompRestT.zero ?_)
  k_with "mine:CompEnd" => (refine LCg.CompEnd.intro (by k_asm) (by k_asm) _ (fun _ hp => hp) (by with_reducible assumption) (by lcg_src) ?_)
  k_with "mine arith" => (first | exact Nat.succ_pos _ | with_reducible assumption | (with_reducible exact ar_r0 (by assumption)) | (with_reducible exact ar_r2 (by assumption) (by decide)) | (with_reducible exact ar_r1 (by assumption) (by decide)) | (with_reducible exact ar_absC (by assumption) (by decide)) | (with_reducible exact ar_abs (by assumption) (by assumption) (by decide)) | (with_reducible exact ar_absN (by assumption) (by decide)) | (with_reducible exact ar_absM) | (with_reducible exact ar_absL (by assumption) (by decide)) | (with_reducible exact ar_cle (by assumption) (by decide)) | (with_reducible exact Int.natCast_nonneg _) | (with_reducible exact ar_min0) | (with_reducible exact ar_min1 (by decide)) | (with_reducible exact ar_sc (by assumption) (by decide)) | (with_reducible exact Nat.le_trans (by assumption) (by decide)) | decide)
  k_with "mine mem" => (first | exact memk 0 rfl | exact memk 1 rfl | exact memk 2 rfl | exact memk 3 rfl | exact memk 4 rfl | exact memk 5 rfl | exact memk 6 rfl | exact memk 7 rfl | exact memk 8 rfl | exact memk 9 rfl | exact memk 10 rfl | exact memk 11 rfl | exact memk 12 rfl | exact memk 13 rfl | exact memk 14 rfl | exact memk 15 rfl | exact memk 16 rfl | exact memk 17 rfl | exact memk 18 rfl | exact memk 19 rfl)
  k_with "mine same" => ((repeat (rename (¬ _) ∧ _ => hz'w; have hz1'w := And.left hz'w; have hz2'w := And.right hz'w; clear hz'w)); (repeat (first | with_reducible rfl | (refine (if_neg (by assumption)).trans ?_))))
  trivial
/-- an int by an int -/
noncomputable def divI (a b : Int) : UInt64 := Float64.ofFrac (decide (a < 0) != decide (b < 0)) a.natAbs b.natAbs
noncomputable def imax3 (a b c : Int) : Int := max (max a b) c
noncomputable def imin3 (a b c : Int) : Int := min (min a b) c
section
variable {prog : Program} {w : World} {A : Around} {E : Value → Shared → Prop} {s : Shared} {Q : Value → Shared → Prop} {h₀ : Heap} {L l : Addr} {m : Str → Option Value} {news : List (Addr × Obj)} {a b c : Int} {t u v : Tok} {n : Nat}
theorem divI_r {f : UInt64} (e : divI a b = f) (hA : A.handled = none) (hb : b ≠ 0) (ha : a.natAbs < 2 ^ 62) (h : ∀ t, Q (.float f t) { s with toks := s.toks + 1 }) : wpAny (model prog w) A (binaryOp .Div (.int a t) (.int b u)) Q E s :=
  div_ii_fits hA (Nat.lt_trans ha (by decide +kernel)) (fun z => absurd z hb) fun _ _ => by subst e; exact h _
theorem max_l3 {hi : Int} (e : imax3 a b c = hi) (hh : A.handled = none) (F : Fr h₀ L s.heap m) (N : News h₀ L s.heap news) (hm : (l, listOf #[.int a t, .int b u, .int c v] n) ∈ news)
    (h : ∀ h' tk t', Fr h₀ L h' m → News h₀ L h' news → Q (.int hi t') { s with heap := h', toks := tk }) : wpAny (model prog w) A (call (.builtin "max") [.ref l]) Q E s := by
  have hl : s.heap.IsList l (intItems #[(a, t), (b, u), (c, v)]) := ⟨_, (N _ hm).1, rfl, n, by simp [intItems]⟩
  refine max_intList hh hl (by simp) fun x h' tk hx kp => ?_
  subst e
  have key : ∃ t', x = .int (imax3 a b c) t' := by
    unfold imax3
    simp only [List.size_toArray, List.length_cons, List.length_nil, argBest, numAt, intItems] at hx
    by_cases h1 : b > a
    · by_cases h2 : c > b
      · simp [h1, h2] at hx; exact ⟨v, by rw [← hx]; congr 1; omega⟩
      · simp [h1, h2] at hx; exact ⟨u, by rw [← hx]; congr 1; omega⟩
    · by_cases h2 : c > a
      · simp [h1, h2] at hx; exact ⟨v, by rw [← hx]; congr 1; omega⟩
      · simp [h1, h2] at hx; exact ⟨t, by rw [← hx]; congr 1; omega⟩
  obtain ⟨t', rfl⟩ := key
  exact h h' tk t' (F.grownK kp) (N.grown kp)
theorem min_l3 {lo : Int} (e : imin3 a b c = lo) (hh : A.handled = none) (F : Fr h₀ L s.heap m) (N : News h₀ L s.heap news) (hm : (l, listOf #[.int a t, .int b u, .int c v] n) ∈ news)
    (h : ∀ h' tk t', Fr h₀ L h' m → News h₀ L h' news → Q (.int lo t') { s with heap := h', toks := tk }) : wpAny (model prog w) A (call (.builtin "min") [.ref l]) Q E s := by
  have hl : s.heap.IsList l (intItems #[(a, t), (b, u), (c, v)]) := ⟨_, (N _ hm).1, rfl, n, by simp [intItems]⟩
  refine min_intList hh hl (by simp) fun x h' tk hx kp => ?_
  subst e
  have key : ∃ t', x = .int (imin3 a b c) t' := by
    unfold imin3
    simp only [List.size_toArray, List.length_cons, List.length_nil, argBest, numAt, intItems] at hx
    by_cases h1 : b < a
    · by_cases h2 : c < b
      · simp [h1, h2] at hx; exact ⟨v, by rw [← hx]; congr 1; omega⟩
      · simp [h1, h2] at hx; exact ⟨u, by rw [← hx]; congr 1; omega⟩
    · by_cases h2 : c < a
      · simp [h1, h2] at hx; exact ⟨v, by rw [← hx]; congr 1; omega⟩
      · simp [h1, h2] at hx; exact ⟨t, by rw [← hx]; congr 1; omega⟩
  obtain ⟨t', rfl⟩ := key
  exact h h' tk t' (F.grownK kp) (N.grown kp)
end
section
variable {prog : Program} {w : World} {A : Around} {E : Value → Shared → Prop} {s : Shared} {Q : Value → Shared → Prop} {h₀ : Heap} {L l : Addr} {m : Str → Option Value} {news : List (Addr × Obj)} {a b : Int} {x f : UInt64} {t u : Tok}
theorem small_fits (hn : a.natAbs < 2 ^ 62) : a.natAbs < 2 ^ 1023 := Nat.lt_trans hn (by decide +kernel)
theorem mulFI_r (e : Float64.mul x (Float64.ofInt a) = f) (hn : a.natAbs < 2 ^ 62) (h : ∀ t, Q (.float f t) { s with toks := s.toks + 1 }) : wpAny (model prog w) A (binaryOp .Mult (.float x t) (.int a u)) Q E s :=
  mul_fi_fits (small_fits hn) (by rw [e]; exact h _)
theorem mulIF_r (e : Float64.mul (Float64.ofInt a) x = f) (hn : a.natAbs < 2 ^ 62) (h : ∀ t, Q (.float f t) { s with toks := s.toks + 1 }) : wpAny (model prog w) A (binaryOp .Mult (.int a u) (.float x t)) Q E s :=
  mul_if_fits (small_fits hn) (by rw [e]; exact h _)
theorem round_r {i : Int} (hf : Float64.isFinite x = true) (e : toInt Float64.nearestOf x = i) (hA : A.handled = none) (h : ∀ t, Q (.int i t) { s with toks := s.toks + 1 }) : wpAny (model prog w) A (call (.builtin "round") [.float x t]) Q E s :=
  call_round_float hA (fun k => (fin_nan hf k).elim) (fun k => (fin_inf hf k).elim) fun _ => by rw [e]; exact h _
theorem min2_r {i : Int} (e : min a b = i) (hh : A.handled = none) (F : Fr h₀ L s.heap m) (N : News h₀ L s.heap news)
    (h : ∀ h' tk t', Fr h₀ L h' m → News h₀ L h' news → Q (.int i t') { s with heap := h', toks := tk }) : wpAny (model prog w) A (call (.builtin "min") [.int a t, .int b u]) Q E s :=
  min_two_num hh (.int a t) (.int b u) fun h' tk kp => by
    subst e
    by_cases c : ltV (.int b u) (.int a t) = true
    · rw [if_pos c]
      have c' : b < a := of_decide_eq_true c
      rw [Int.min_eq_right (Int.le_of_lt c')] at h
      exact h h' tk u (F.grownK kp) (N.grown kp)
    · rw [if_neg c]
      have c' : ¬ b < a := fun q => c (decide_eq_true q)
      rw [Int.min_eq_left (Int.not_lt.mp c')] at h
      exact h h' tk t (F.grownK kp) (N.grown kp)
theorem max2_r {i : Int} (e : max a b = i) (hh : A.handled = none) (F : Fr h₀ L s.heap m) (N : News h₀ L s.heap news)
    (h : ∀ h' tk t', Fr h₀ L h' m → News h₀ L h' news → Q (.int i t') { s with heap := h', toks := tk }) : wpAny (model prog w) A (call (.builtin "max") [.int a t, .int b u]) Q E s :=
  max_two_num hh (.int a t) (.int b u) fun h' tk kp => by
    subst e
    by_cases c : ltV (.int a t) (.int b u) = true
    · rw [if_pos c]
      have c' : a < b := of_decide_eq_true c
      rw [Int.max_eq_right (Int.le_of_lt c')] at h
      exact h h' tk u (F.grownK kp) (N.grown kp)
    · rw [if_neg c]
      have c' : ¬ a < b := fun q => c (decide_eq_true q)
      rw [Int.max_eq_left (Int.not_lt.mp c')] at h
      exact h h' tk t (F.grownK kp) (N.grown kp)
end
theorem range_has (r : Addr) (a b c x : Int) (t u v q : Tok) :
    Meets (Builtin.«range.__contains__» ⟨[.ref r, .int x q], []⟩) (fun _ R s => s.heap.get? r = some { cls := .type "range", dict := none, data := .fields #[.int a t, .int b u, .int c v], slots := #[] } ∧ R (.ok (.ret (.bool (Builtin.Range.rangePlace? a b c x).isSome))) s) :=
  .of_wp fun prog w A R s h => by obtain ⟨hp, g, d, tk, os⟩ := s; obtain ⟨hl, h⟩ := h; wp_walk; exact ⟨_, rfl, h⟩
section
variable {prog : Program} {w : World} {A : Around} {E : Value → Shared → Prop} {s : Shared} {Q : Value → Shared → Prop} {r : Addr} {n x : Int} {t u v q : Tok}
theorem notIn_range (hr : IsRange s.heap r 0 n 1 t u v) (h0 : 0 ≤ x) (h1 : x < n) (h : Q (.bool false) s) : wpAny (model prog w) A (compareOp .NotIn (.int x q) (.ref r)) Q E s :=
  SeqRoads2.notIn_meets (T := "range") ⟨_, hr, rfl⟩ F.slot_range_contains F.entry_range_contains (F.args_range_contains_2 _ _) (range_has r 0 n 1 x t u v q) ⟨hr, _, rfl, by
    have e : (Builtin.Range.rangePlace? 0 n 1 x).isSome = true := by
      unfold Builtin.Range.rangePlace?
      simp [h0, h1]
    rw [e]; exact h⟩
end
section
variable {prog : Program} {w : World} {A : Around} {E : Value → Shared → Prop} {s : Shared} {Q : Value → Shared → Prop} {a b q : Int} {t u : Tok}
theorem fdiv_r (e : a.fdiv b = q) (hb : b ≠ 0) (hs : b.natAbs < 2 ^ 62) (h : ∀ t, Q (.int q t) { s with toks := s.toks + 1 }) : wpAny (model prog w) A (binaryOp .FloorDiv (.int a t) (.int b u)) Q E s :=
  floordiv_int hb (by rw [e]; exact h _) (.inl (PyProof.noPylong_of_log2 (Nat.lt_of_lt_of_le ((Nat.log2_lt (by omega)).mpr hs) (by decide))))
theorem fmod_r (e : a.fmod b = q) (hb : b ≠ 0) (h : ∀ t, Q (.int q t) { s with toks := s.toks + 1 }) : wpAny (model prog w) A (binaryOp .Mod (.int a t) (.int b u)) Q E s :=
  mod_int' hb (by rw [e]; exact h _)
end
end
section
theorem ksetP10_11 : True := by
  k_with_none
  k_with "mine enter" => (refine' code_defP ?mkb ?mk1 ?mk2 ?mk3 ?mk4 ?mk5 ?mkA ?mkF ?mkK ?mk6 ?mk7 ?mk8 ?mk9 ?mkB ?_ ?mc2 ?mc3 ?mc4 ?mc5; (case mkb => assumption); (case mkA => exact rfl); (case mkF => exact rfl); (case mkK => assumption); (case mk1 => k_asm); (case mk2 => k_asm); (case mk3 => k_asm); (case mk4 => k_asm); (case mk5 => k_asm); (case mk6 => k_is); (case mk7 => k_is); (case mk8 => ktr_room); (case mk9 => exact BindsTo.of_eq rfl); (case mc5 => decide); (case mkB => exact locs rfl); (case mc2 => exact rfl); (case mc3 => exact rfl); (case mc4 => exact rfl); k_whole; intro g'w L'w h'w hH'w FG'w F'w N'w B'w X'w T'w; (try simp only [List.reverse_cons, List.reverse_nil, List.nil_append, List.cons_append, List.length_cons, List.length_nil]); (try dsimp only); (try k_lift B'w); (try k_fold); refine cut ?_; intro qq'w hq'w; refine letA ?_; intro A1'w)
  k_with "mine start" => (w_top off; dsimp only [Ctr]; k_fill; intros; refine wpAny_call ?_; k_dflt (k_extra "mine enter"))
  k_with "mine keeps" => (refine' keeps_of ?mq1 ?mq2 ?mq3 ?mq4 ?mq5; (case mq1 => with_reducible assumption); (case mq2 => with_reducible assumption); (case mq3 => with_reducible assumption); (case mq4 => with_reducible assumption); (case mq5 => lcg_sub))
  k_with "mine off" => (first | exact List.forall_mem_nil _ | (refine List.forall_mem_cons.mpr ⟨?ma, ?mb⟩; (case ma => k_ne); (case mb => k_extra "mine off")))
  k_with "mine fresh" => (refine' fresh_of ?mq1 ?mq2 ?mq3 ?mq4; (case mq1 => with_reducible assumption); (case mq2 => with_reducible assumption); (case mq3 => k_mem); (case mq4 => k_extra "mine off"))
  k_with "mine ret" => ((rename RetOf _ _ _ => hR'w); refine' RetOf.at hR'w ?mkk ?_; (case mkk => k_extra "mine keeps"))
  k_with "mine tup3" => (k_extra "mine ret"; refine' ⟨_, _, _, _, rfl, ?mkf, ?mkg, ?_⟩; (case mkg => exact News.get (by with_reducible assumption) (by k_mem)); (case mkf => k_extra "mine fresh"))
  k_with "mine:execs cons" => (k_here; first | (refine' execs_cutL ?mhs ?mF ?mN ?_; (case mhs => first | (dsimp only; exact rfl) | dsimp only | exact rfl); (case mF => k_asm); (case mN => k_asm); intro m1'w n1'w F1'w N1'w q'w hq'w; try dsimp only at F1'w N1'w) | (refine' execs_cut ?_; intro q'w hq'w))
  k_with "mine:execs cons" => (k_here; (with_reducible show wpAny _ _ _ _ _ (Shared.mk _ _ _ (_ + _) _)); refine' gen_toks ?mhX ?_; (case mhX => omega); intro tk'w htk'w)
  k_with "mine:execs nil" => (k_here; (with_reducible show wpAny _ _ _ _ _ (Shared.mk _ _ _ (_ + _) _)); refine' gen_toks ?mhX ?_; (case mhX => omega); intro tk'w htk'w)
  k_with "mine units" => ((have hcL9 := cLine_is); (try simp +zetaDelta only [units_in1, units_deeper, Around.mark_units, units_caller]); (try dsimp +zetaDelta only [ktrTop]); omega)
  k_with "mine step" => (first | (k_unfold; (try dsimp only)) | (k_end; wrow_close) | walk1 | (dsimp only; walk1) | (leave1; walk_say "STEP leave1"; try dsimp only))
  k_with "mine ne" => (first | with_reducible assumption | (refine Ne.symm ?_; with_reducible assumption) | (refine Nat.ne_of_lt ?_; with_reducible assumption) | (refine Nat.ne_of_gt ?_; with_reducible assumption) | (refine neN ?_; (try dsimp only); (try simp only [ne_eq]); omega))
  k_with "mine:Held" => (refine Held.go (by with_reducible assumption) ?_; try dsimp only)
  k_with "mine offs" => (k_dflt ((rename LCg.Off1 _ _ => hq'w); refine Off1c.of hq'w ?_; clear hq'w; (repeat intro o2'w); refine ⟨?_⟩))
  k_with "mine:FinE" => ((unfold LCg.FinE); intro D'w h'w tk'w F'w N'w o1'w; (try simp only [List.nil_append, List.cons_append] at N'w o1'w); k_extra "mine offs"; (try dsimp only))
  k_with "mine:CompRest" => (with_unfolding_all first
    | (refine LCg.CompRest.succ ?_; intro v'w I'w oI'w C'w oC'w D'w m'w h'w tk'w E'w hv'w hC'w hx'w F'w N'w off'w ne'w; (first | lcg_open hv'w | (obtain ⟨t9'w, hv9'w⟩ := hv'w; subst hv9'w)); refine cut ?_; intro q4'w hq4'w)
    | refine LCg.CompRest.zero ?_)
  k_with "mine:CompRestT" => (with_unfolding_all first
    | (refine LCt.CompRestT.succ ?_; intro v'w I'w oI'w C'w oC'w D'w m'w h'w tk'w E'w hv'w hC'w hx'w F'w N'w off'w ne'w; (first | lcg_open hv'w | (obtain ⟨t9'w, hv9'w⟩ := hv'w; subst hv9'w)))
    | refine LCt.CompRestT.zero ?_)
  k_with "mine:CompEnd" => (refine LCg.CompEnd.intro (by k_asm) (by k_asm) _ (fun _ hp => hp) (by with_reducible assumption) (by lcg_src) ?_)
  k_with "mine arith" => (first | exact Nat.succ_pos _ | with_reducible assumption | (with_reducible exact ar_r0 (by assumption)) | (with_reducible exact ar_r2 (by assumption) (by decide)) | (with_reducible exact ar_r1 (by assumption) (by decide)) | (with_reducible exact ar_absC (by assumption) (by decide)) | (with_reducible exact ar_abs (by assumption) (by assumption) (by decide)) | (with_reducible exact ar_absN (by assumption) (by decide)) | (with_reducible exact ar_absM) | (with_reducible exact ar_absL (by assumption) (by decide)) | (with_reducible exact ar_cle (by assumption) (by decide)) | (with_reducible exact Int.natCast_nonneg _) | (with_reducible exact ar_min0) | (with_reducible exact ar_min1 (by decide)) | (with_reducible exact ar_sc (by assumption) (by decide)) | (with_reducible exact Nat.le_trans (by assumption) (by decide)) | decide)
  k_with "mine mem" => (first | exact memk 0 rfl | exact memk 1 rfl | exact memk 2 rfl | exact memk 3 rfl | exact memk 4 rfl | exact memk 5 rfl | exact memk 6 rfl | exact memk 7 rfl | exact memk 8 rfl | exact memk 9 rfl | exact memk 10 rfl | exact memk 11 rfl | exact memk 12 rfl | exact memk 13 rfl | exact memk 14 rfl | exact memk 15 rfl | exact memk 16 rfl | exact memk 17 rfl | exact memk 18 rfl | exact memk 19 rfl)
  k_with "mine same" => ((repeat (rename (¬ _) ∧ _ => hz'w; have hz1'w := And.left hz'w; have hz2'w := And.right hz'w; clear hz'w)); (repeat (first | with_reducible rfl | (refine (if_neg (by assumption)).trans ?_))))
  k_with "mine use" => ((case mk1 => k_asm); (case mk2 => k_asm); (case mk3 => k_asm); (case mk4 => k_asm); (case mk5 => k_asm); (case mk6 => exact rfl); (case mk7 => lcg_sub); (case mk8 => ktr_room); (case mk9 => units_room))
  k_with "mine:subscriptTail Name Constant ref int" => (k_here; (with_reducible show wpAny _ _ (subscriptTail _ _ (Value.ref _) (Value.int _ _)) _ _ _); kim_at)
  k_with "mine:subscriptTail Name Constant ref int" => (k_here; (with_reducible show wpAny _ _ (subscriptTail _ _ (Value.ref _) (Value.int _ _)) _ _ _); (with_unfolding_all refine' item_litK ?mk1 ?mk2 ?mk3 ?mk4 ?_ ?mk6; (case mk1 => is_list); (case mk2 => decide); (case mk3 => decide); (case mk4 => rfl); (case mk6 => with_unfolding_all rfl); k_whole))
  k_with "mine:binaryOp Div int int" => (k_here; (with_reducible refine' divI_r ?me ?mk1 ?mk2 ?mk3 ?_); (case me => first | assumption | exact rfl); (case mk1 => k_dflt rfl); (case mk2 => first | decide | omega); (case mk3 => omega); intro t'w)
  k_with "mine:binaryOp Mult float int" => (k_here; (with_reducible refine' mulFI_r ?me ?mk3 ?_); (case me => first | assumption | exact rfl); (case mk3 => omega); intro t'w)
  k_with "mine:binaryOp Mult int float" => (k_here; (with_reducible refine' mulIF_r ?me ?mk3 ?_); (case me => first | assumption | exact rfl); (case mk3 => omega); intro t'w)
  k_with "mine:call builtin:round" => (k_here; (with_reducible show wpAny _ _ (call (Value.builtin "round") [Value.float _ _]) _ _ _); (with_reducible refine' round_r ?mhf ?me ?mkh ?_); (case mhf => assumption); (case me => first | assumption | exact rfl); (case mkh => k_dflt rfl); intro t'w)
  k_with "mine:call builtin:max" => (k_here; first
    | ((with_reducible show wpAny _ _ (call (Value.builtin "max") [Value.ref _]) _ _ _); (with_reducible refine' max_l3 ?me ?mkh ?mk1 ?mk2 ?mk3 ?_); (case mk1 => k_asm); (case mk2 => k_asm); (case mk3 => k_dflt k_mem); (case me => assumption); (case mkh => k_dflt rfl); intro h'w tk'w t'w F'w N'w; (try k_sweep))
    | ((with_reducible show wpAny _ _ (call (Value.builtin "max") [Value.int _ _, Value.int _ _]) _ _ _); (with_reducible refine' max2_r ?me ?mkh ?mk1 ?mk2 ?_); (case mk1 => k_asm); (case mk2 => k_asm); (case me => first | assumption | exact rfl); (case mkh => k_dflt rfl); intro h'w tk'w t'w F'w N'w; (try k_sweep)))
  k_with "mine:call builtin:min" => (k_here; first
    | ((with_reducible show wpAny _ _ (call (Value.builtin "min") [Value.ref _]) _ _ _); (with_reducible refine' min_l3 ?me ?mkh ?mk1 ?mk2 ?mk3 ?_); (case mk1 => k_asm); (case mk2 => k_asm); (case mk3 => k_dflt k_mem); (case me => assumption); (case mkh => k_dflt rfl); intro h'w tk'w t'w F'w N'w; (try k_sweep))
    | ((with_reducible show wpAny _ _ (call (Value.builtin "min") [Value.int _ _, Value.int _ _]) _ _ _); (with_reducible refine' min2_r ?me ?mkh ?mk1 ?mk2 ?_); (case mk1 => k_asm); (case mk2 => k_asm); (case me => first | assumption | exact rfl); (case mkh => k_dflt rfl); intro h'w tk'w t'w F'w N'w; (try k_sweep)))
  k_with "mine:ite" => (k_here; first
    | (with_reducible refine ite_neg (by first | assumption | exact Bool.eq_false_iff.mp (by assumption) | (simp only [decide_true, decide_false, Bool.not_true, Bool.not_false, eq_self, Bool.false_eq_true, not_false_eq_true]; done) | ((try simp only [beq_iff_eq, bne_iff_ne, decide_eq_true_eq, ne_eq, Bool.not_eq_true', decide_eq_false_iff_not, Int.not_lt, Int.not_le]); omega)) ?_)
    | (with_reducible refine ite_pos (by first | assumption | (simp only [decide_true, decide_false, Bool.not_true, Bool.not_false, eq_self, Bool.false_eq_true, not_false_eq_true]; done) | ((try simp only [beq_iff_eq, bne_iff_ne, decide_eq_true_eq, ne_eq, Bool.not_eq_true', decide_eq_false_iff_not, Int.not_lt, Int.not_le]); omega)) ?_))
  k_with "mine:compareOp NotIn" => (k_here; (with_reducible show wpAny _ _ (compareOp CmpOp.NotIn (Value.int _ _) (Value.ref _)) _ _ _); (with_reducible refine' notIn_range ?mk1 ?mk2 ?mk3 ?_); (case mk1 => k_dflt assumption); (case mk2 => omega); (case mk3 => omega))
  k_with "mine:compareOp NotIn int ref" => (walk_at "compareOp NotIn")
  k_with "mine:binaryOp FloorDiv int int" => (k_here; (with_reducible refine' fdiv_r ?me ?mk2 ?mk3 ?_); (case me => first | assumption | exact rfl); (case mk2 => first | decide | omega); (case mk3 => first | decide | omega); intro t'w)
  k_with "mine:binaryOp Mod int int" => (k_here; (with_reducible refine' fmod_r ?me ?mk2 ?_); (case me => first | assumption | exact rfl); (case mk2 => first | decide | omega); intro t'w)
  trivial
section
variable {prog : Program} {w : World} {A : Around} {E : Value → Shared → Prop} {s : Shared} {Q : Value → Shared → Prop}
theorem same0 {M : Model} {t u : Tok} {Q : Bool → Shared → Prop} (ht : t ≠ 0) (hu : u ≠ 0) (hb : NoneBooked s.heap) (hq : ∀ b, Q b s) : wpAny M A (isSame (.float 0 t) (.float 0 u)) Q E s := by
  show wpAny M A (isSame.created (true && !Float64.isNaN 0) t u) Q E s
  unfold isSame.created
  refine wpAny_ite ?_
  rw [if_neg (by simp [ht, hu])]
  refine wpAny_ite ?_
  split
  · exact wpAny_pure (hq _)
  refine wpAny_ite ?_
  split
  · exact wpAny_pure (hq _)
  refine wpAny_bind (wpAny_sharingNotTold_none hb ?_)
  rw [if_neg Bool.false_ne_true]
  refine wpAny_bind (wpAny_sharingNotTold_none hb ?_)
  rw [if_neg Bool.false_ne_true]
  exact wpAny_bind (wpAny_rule (wpAny_bind (wpAny_askSetting (wpAny_pure (hq _)))))
theorem eqAt0 {t u : Tok} (ht : t ≠ 0) (hu : u ≠ 0) (hb : NoneBooked s.heap) : PySem.SeqAt.EqAt A s (.float 0 t) (.float 0 u) true := fun prog w E Q h => by
  unfold eqBool
  refine wpAny_holding ?_
  refine wpAny_ite_split (fun _ => wpAny_bind (wpAny_rule (wpAny_pure h))) (fun _ => ?_)
  refine wpAny_bind (same0 ht hu hb fun b => ?_)
  cases b
  · refine wpAny_bind ?_
    show wpAny _ _ (compareOp .Eq (.float 0 t) (.float 0 u)) _ _ _
    exact AutoFloatOps.eq_0 (wpAny_truthy_bool (by rw [show (Float64.cmp 0 0 == some Ordering.eq) = true by decide +kernel]; exact h))
  · exact wpAny_pure h
theorem tup4_eq0 {h₀ : Heap} {L l b : Addr} {news : List (Addr × Obj)} {x1 x2 x3 x4 y1 y2 y3 y4 : UInt64} {t1 t2 t3 t4 u1 u2 u3 u4 : Tok} (e1 : x1 = 0) (e2 : x2 = 0) (e3 : x3 = 0) (e4 : x4 = 0) (f1 : y1 = 0) (f2 : y2 = 0) (f3 : y3 = 0) (f4 : y4 = 0) (N : News h₀ L s.heap news)
    (hl : (l, tupO #[.float x1 t1, .float x2 t2, .float x3 t3, .float x4 t4]) ∈ news) (hb : (b, tupO #[.float y1 u1, .float y2 u2, .float y3 u3, .float y4 u4]) ∈ news) (hu : A.units < cLine)
    (z1 : t1 ≠ 0) (z2 : t2 ≠ 0) (z3 : t3 ≠ 0) (z4 : t4 ≠ 0) (w1 : u1 ≠ 0) (w2 : u2 ≠ 0) (w3 : u3 ≠ 0) (w4 : u4 ≠ 0) (nb : NoneBooked s.heap)
    (h : Q (.bool true) s) : wpAny (model prog w) A (compareOp .Eq (.ref l) (.ref b)) Q E s := by
  subst e1 e2 e3 e4 f1 f2 f3 f4
  refine PySem.SeqAt.eq_tupleAt (e := fun _ => true) ⟨_, (N _ hl).1, rfl, 0, rfl⟩ ⟨_, (N _ hb).1, rfl, 0, rfl⟩ hu (fun j h1 h2 => ?_) (by exact h)
  have h1 : j < 4 := by simpa using h1
  match j, h1 with
  | 0, _ => exact eqAt0 z1 w1 nb
  | 1, _ => exact eqAt0 z2 w2 nb
  | 2, _ => exact eqAt0 z3 w3 nb
  | 3, _ => exact eqAt0 z4 w4 nb
end
theorem ksetP10_10 : True := by
  k_with "mine booked" => (refine' none_booked (Frag.In.keeps ?ma1 (Fr.keep ?ma2)) (Top.keeps ?ma3 (Fr.keep ?ma4)); (case ma2 => k_asm); (case ma4 => k_asm); (case ma1 => k_asm); (case ma3 => k_asm))
  k_with "mine tok" => (first | with_reducible assumption | exact Nat.succ_ne_zero _ | exact Nat.ne_of_gt (by with_reducible assumption) | assumption | (refine neN ?_; (try dsimp only); omega))
  k_with "mine:compareOp Eq ref ref" => (k_here; (with_reducible show wpAny _ _ (compareOp CmpOp.Eq (Value.ref _) (Value.ref _)) _ _ _); k_dflt (refine' tup4_eq0 ?me1 ?me2 ?me3 ?me4 ?mf1 ?mf2 ?mf3 ?mf4 ?mk1 ?mk2 ?mk3 ?mk4 ?mz1 ?mz2 ?mz3 ?mz4 ?mw1 ?mw2 ?mw3 ?mw4 ?mnb ?_; (case mk1 => k_asm); (case mk2 => k_mem); (case mk3 => k_mem); (case me1 => assumption); (case me2 => assumption); (case me3 => assumption); (case me4 => assumption); (case mf1 => rfl); (case mf2 => rfl); (case mf3 => rfl); (case mf4 => rfl); (case mk4 => units_room); (case mz1 => k_extra "mine tok"); (case mz2 => k_extra "mine tok"); (case mz3 => k_extra "mine tok"); (case mz4 => k_extra "mine tok"); (case mw1 => k_extra "mine tok"); (case mw2 => k_extra "mine tok"); (case mw3 => k_extra "mine tok"); (case mw4 => k_extra "mine tok"); (case mnb => k_extra "mine booked")))
  k_with "mine:call ref" => (k_here; first
    | ((with_reducible show wpAny _ _ (call (Value.ref 76) _) _ _ _); k_dflt (refine' use_tup3 (hsv_c _ _ _ _ _ _ _ _ _ _ ?mpz) ?mk1 ?mk2 ?mk3 ?mk4 ?mk5 ?mk6 ?mk7 ?mk8 ?mk9 ?_; k_extra "mine use"; (case mpz => assumption)); intro D'w u1'w u2'w u3'w h'w tk'w o9'w F'w N'w o1'w hP'w; obtain ⟨hz1'w, hz2'w⟩ := hP'w (by assumption); k_extra "mine offs")
    | ((with_reducible show wpAny _ _ (call (Value.ref 69) _) _ _ _); k_dflt (refine' use_tup3 (hls_c _ _ _ _ _ _ _ _ _ _ ?mpz) ?mk1 ?mk2 ?mk3 ?mk4 ?mk5 ?mk6 ?mk7 ?mk8 ?mk9 ?_; k_extra "mine use"; (case mpz => assumption)); intro D'w u1'w u2'w u3'w h'w tk'w o9'w F'w N'w o1'w hP'w; obtain ⟨hz1'w, hz2'w⟩ := hP'w (by assumption); k_extra "mine offs"))
  trivial

theorem hues0_c (w mean mg mb) (l1 l2 : Addr) (n1 n2 : Nat) (a b c hi lo : Int) (r g bl q1 q2 : UInt64) (t1 t2 t3 : Tok)
    (ha : 0 ≤ a ∧ a ≤ 16) (hb : 0 ≤ b ∧ b ≤ 16) (hc : 0 ≤ c ∧ c ≤ 16) (hlo0 : 0 ≤ lo) (hlo : lo = hi) (hhi : hi ≤ 16)
    (er : divI a 16 = r) (eg : divI b 16 = g) (eb : divI c 16 = bl) (ehi : imax3 a b c = hi) (elo : imin3 a b c = lo) (e1 : divI hi 16 = q1) (e2 : divI (hi + lo) 32 = q2)
    (z1 : hsvZ r g bl = true) (z2 : hlsZ r g bl = true) (v1 : (Float64.cmp (fmax3 r g bl) q1 != some Ordering.eq) = false) (v2 : (Float64.cmp (hlsL r g bl) q2 != some Ordering.eq) = false)
    (hgr : greyF r g bl = true) (y1 : hueT r g bl = 0) (y2 : hsvS r g bl = 0) (y3 : hlsS r g bl = 0) :
    Ctr w mean mg mb 100 [.ref l1, .ref l2] [(l1, listOf #[.int a t1, .int b t2, .int c t3] n1), (l2, listOf #[] n2)] 3 (PBool true) := by
  have hB : Bnd [(Str.ofString "sixths", .ref l2), (Str.ofString "now", .ref l1)] := trivial
  k_extra "mine start"
  k_steps
  k_extra "mine ret"
  rfl
end
section
theorem ksetP11_12 : True := by
  k_with_none
  k_with "mine enter" => (refine' code_defP ?mkb ?mk1 ?mk2 ?mk3 ?mk4 ?mk5 ?mkA ?mkF ?mkK ?mk6 ?mk7 ?mk8 ?mk9 ?mkB ?_ ?mc2 ?mc3 ?mc4 ?mc5; (case mkb => assumption); (case mkA => exact rfl); (case mkF => exact rfl); (case mkK => assumption); (case mk1 => k_asm); (case mk2 => k_asm); (case mk3 => k_asm); (case mk4 => k_asm); (case mk5 => k_asm); (case mk6 => k_is); (case mk7 => k_is); (case mk8 => ktr_room); (case mk9 => exact BindsTo.of_eq rfl); (case mc5 => decide); (case mkB => exact locs rfl); (case mc2 => exact rfl); (case mc3 => exact rfl); (case mc4 => exact rfl); k_whole; intro g'w L'w h'w hH'w FG'w F'w N'w B'w X'w T'w; (try simp only [List.reverse_cons, List.reverse_nil, List.nil_append, List.cons_append, List.length_cons, List.length_nil]); (try dsimp only); (try k_lift B'w); (try k_fold); refine cut ?_; intro qq'w hq'w; refine letA ?_; intro A1'w)
  k_with "mine start" => (w_top off; dsimp only [Ctr]; k_fill; intros; refine wpAny_call ?_; k_dflt (k_extra "mine enter"))
  k_with "mine keeps" => (refine' keeps_of ?mq1 ?mq2 ?mq3 ?mq4 ?mq5; (case mq1 => with_reducible assumption); (case mq2 => with_reducible assumption); (case mq3 => with_reducible assumption); (case mq4 => with_reducible assumption); (case mq5 => lcg_sub))
  k_with "mine off" => (first | exact List.forall_mem_nil _ | (refine List.forall_mem_cons.mpr ⟨?ma, ?mb⟩; (case ma => k_ne); (case mb => k_extra "mine off")))
  k_with "mine fresh" => (refine' fresh_of ?mq1 ?mq2 ?mq3 ?mq4; (case mq1 => with_reducible assumption); (case mq2 => with_reducible assumption); (case mq3 => k_mem); (case mq4 => k_extra "mine off"))
  k_with "mine ret" => ((rename RetOf _ _ _ => hR'w); refine' RetOf.at hR'w ?mkk ?_; (case mkk => k_extra "mine keeps"))
  k_with "mine tup3" => (k_extra "mine ret"; refine' ⟨_, _, _, _, rfl, ?mkf, ?mkg, ?_⟩; (case mkg => exact News.get (by with_reducible assumption) (by k_mem)); (case mkf => k_extra "mine fresh"))
  k_with "mine:execs cons" => (k_here; first | (refine' execs_cutL ?mhs ?mF ?mN ?_; (case mhs => first | (dsimp only; exact rfl) | dsimp only | exact rfl); (case mF => k_asm); (case mN => k_asm); intro m1'w n1'w F1'w N1'w q'w hq'w; try dsimp only at F1'w N1'w) | (refine' execs_cut ?_; intro q'w hq'w))
  k_with "mine:execs cons" => (k_here; (with_reducible show wpAny _ _ _ _ _ (Shared.mk _ _ _ (_ + _) _)); refine' gen_toks ?mhX ?_; (case mhX => omega); intro tk'w htk'w)
  k_with "mine:execs nil" => (k_here; (with_reducible show wpAny _ _ _ _ _ (Shared.mk _ _ _ (_ + _) _)); refine' gen_toks ?mhX ?_; (case mhX => omega); intro tk'w htk'w)
  k_with "mine units" => ((have hcL9 := cLine_is); (try simp +zetaDelta only [units_in1, units_deeper, Around.mark_units, units_caller]); (try dsimp +zetaDelta only [ktrTop]); omega)
  k_with "mine step" => (first | (k_unfold; (try dsimp only)) | (k_end; wrow_close) | walk1 | (dsimp only; walk1) | (leave1; walk_say "STEP leave1"; try dsimp only))
  k_with "mine ne" => (first | with_reducible assumption | (refine Ne.symm ?_; with_reducible assumption) | (refine Nat.ne_of_lt ?_; with_reducible assumption) | (refine Nat.ne_of_gt ?_; with_reducible assumption) | (refine neN ?_; (try dsimp only); (try simp only [ne_eq]); omega))
  k_with "mine:Held" => (refine Held.go (by with_reducible assumption) ?_; try dsimp only)
  k_with "mine offs" => (k_dflt ((rename LCg.Off1 _ _ => hq'w); refine Off1c.of hq'w ?_; clear hq'w; (repeat intro o2'w); refine ⟨?_⟩))
  k_with "mine:FinE" => ((unfold LCg.FinE); intro D'w h'w tk'w F'w N'w o1'w; (try simp only [List.nil_append, List.cons_append] at N'w o1'w); k_extra "mine offs"; (try dsimp only))
  k_with "mine:CompRest" => (with_unfolding_all first
    | (refine LCg.CompRest.succ ?_; intro v'w I'w oI'w C'w oC'w D'w m'w h'w tk'w E'w hv'w hC'w hx'w F'w N'w off'w ne'w; (first | lcg_open hv'w | (obtain ⟨t9'w, hv9'w⟩ := hv'w; subst hv9'w)); refine cut ?_; intro q4'w hq4'w)
    | refine LCg.CompRest.zero ?_)
  k_with "mine:CompRestT" => (with_unfolding_all first
    | (refine LCt.CompRestT.succ ?_; intro v'w I'w oI'w C'w oC'w D'w m'w h'w tk'w E'w hv'w hC'w hx'w F'w N'w off'w ne'w; (first | lcg_open hv'w | (obtain ⟨t9'w, hv9'w⟩ := hv'w; subst hv9'w)))
    | refine LCt.CompRestT.zero ?_)
  k_with "mine:CompEnd" => (refine LCg.CompEnd.intro (by k_asm) (by k_asm) _ (fun _ hp => hp) (by with_reducible assumption) (by lcg_src) ?_)
  k_with "mine arith" => (first | exact Nat.succ_pos _ | with_reducible assumption | (with_reducible exact ar_r0 (by assumption)) | (with_reducible exact ar_r2 (by assumption) (by decide)) | (with_reducible exact ar_r1 (by assumption) (by decide)) | (with_reducible exact ar_absC (by assumption) (by decide)) | (with_reducible exact ar_abs (by assumption) (by assumption) (by decide)) | (with_reducible exact ar_absN (by assumption) (by decide)) | (with_reducible exact ar_absM) | (with_reducible exact ar_absL (by assumption) (by decide)) | (with_reducible exact ar_cle (by assumption) (by decide)) | (with_reducible exact Int.natCast_nonneg _) | (with_reducible exact ar_min0) | (with_reducible exact ar_min1 (by decide)) | (with_reducible exact ar_sc (by assumption) (by decide)) | (with_reducible exact Nat.le_trans (by assumption) (by decide)) | decide)
  k_with "mine mem" => (first | exact memk 0 rfl | exact memk 1 rfl | exact memk 2 rfl | exact memk 3 rfl | exact memk 4 rfl | exact memk 5 rfl | exact memk 6 rfl | exact memk 7 rfl | exact memk 8 rfl | exact memk 9 rfl | exact memk 10 rfl | exact memk 11 rfl | exact memk 12 rfl | exact memk 13 rfl | exact memk 14 rfl | exact memk 15 rfl | exact memk 16 rfl | exact memk 17 rfl | exact memk 18 rfl | exact memk 19 rfl)
  k_with "mine same" => ((repeat (rename (¬ _) ∧ _ => hz'w; have hz1'w := And.left hz'w; have hz2'w := And.right hz'w; clear hz'w)); (repeat (first | with_reducible rfl | (refine (if_neg (by assumption)).trans ?_))))
  k_with "mine use" => ((case mk1 => k_asm); (case mk2 => k_asm); (case mk3 => k_asm); (case mk4 => k_asm); (case mk5 => k_asm); (case mk6 => exact rfl); (case mk7 => lcg_sub); (case mk8 => ktr_room); (case mk9 => units_room))
  k_with "mine:subscriptTail Name Constant ref int" => (k_here; (with_reducible show wpAny _ _ (subscriptTail _ _ (Value.ref _) (Value.int _ _)) _ _ _); kim_at)
  k_with "mine:subscriptTail Name Constant ref int" => (k_here; (with_reducible show wpAny _ _ (subscriptTail _ _ (Value.ref _) (Value.int _ _)) _ _ _); (with_unfolding_all refine' item_litK ?mk1 ?mk2 ?mk3 ?mk4 ?_ ?mk6; (case mk1 => is_list); (case mk2 => decide); (case mk3 => decide); (case mk4 => rfl); (case mk6 => with_unfolding_all rfl); k_whole))
  k_with "mine:binaryOp Div int int" => (k_here; (with_reducible refine' divI_r ?me ?mk1 ?mk2 ?mk3 ?_); (case me => first | assumption | exact rfl); (case mk1 => k_dflt rfl); (case mk2 => first | decide | omega); (case mk3 => omega); intro t'w)
  k_with "mine:binaryOp Mult float int" => (k_here; (with_reducible refine' mulFI_r ?me ?mk3 ?_); (case me => first | assumption | exact rfl); (case mk3 => omega); intro t'w)
  k_with "mine:binaryOp Mult int float" => (k_here; (with_reducible refine' mulIF_r ?me ?mk3 ?_); (case me => first | assumption | exact rfl); (case mk3 => omega); intro t'w)
  k_with "mine:call builtin:round" => (k_here; (with_reducible show wpAny _ _ (call (Value.builtin "round") [Value.float _ _]) _ _ _); (with_reducible refine' round_r ?mhf ?me ?mkh ?_); (case mhf => assumption); (case me => first | assumption | exact rfl); (case mkh => k_dflt rfl); intro t'w)
  k_with "mine:call builtin:max" => (k_here; first
    | ((with_reducible show wpAny _ _ (call (Value.builtin "max") [Value.ref _]) _ _ _); (with_reducible refine' max_l3 ?me ?mkh ?mk1 ?mk2 ?mk3 ?_); (case mk1 => k_asm); (case mk2 => k_asm); (case mk3 => k_dflt k_mem); (case me => assumption); (case mkh => k_dflt rfl); intro h'w tk'w t'w F'w N'w; (try k_sweep))
    | ((with_reducible show wpAny _ _ (call (Value.builtin "max") [Value.int _ _, Value.int _ _]) _ _ _); (with_reducible refine' max2_r ?me ?mkh ?mk1 ?mk2 ?_); (case mk1 => k_asm); (case mk2 => k_asm); (case me => first | assumption | exact rfl); (case mkh => k_dflt rfl); intro h'w tk'w t'w F'w N'w; (try k_sweep)))
  k_with "mine:call builtin:min" => (k_here; first
    | ((with_reducible show wpAny _ _ (call (Value.builtin "min") [Value.ref _]) _ _ _); (with_reducible refine' min_l3 ?me ?mkh ?mk1 ?mk2 ?mk3 ?_); (case mk1 => k_asm); (case mk2 => k_asm); (case mk3 => k_dflt k_mem); (case me => assumption); (case mkh => k_dflt rfl); intro h'w tk'w t'w F'w N'w; (try k_sweep))
    | ((with_reducible show wpAny _ _ (call (Value.builtin "min") [Value.int _ _, Value.int _ _]) _ _ _); (with_reducible refine' min2_r ?me ?mkh ?mk1 ?mk2 ?_); (case mk1 => k_asm); (case mk2 => k_asm); (case me => first | assumption | exact rfl); (case mkh => k_dflt rfl); intro h'w tk'w t'w F'w N'w; (try k_sweep)))
  k_with "mine:ite" => (k_here; first
    | (with_reducible refine ite_neg (by first | assumption | exact Bool.eq_false_iff.mp (by assumption) | (simp only [decide_true, decide_false, Bool.not_true, Bool.not_false, eq_self, Bool.false_eq_true, not_false_eq_true]; done) | ((try simp only [beq_iff_eq, bne_iff_ne, decide_eq_true_eq, ne_eq, Bool.not_eq_true', decide_eq_false_iff_not, Int.not_lt, Int.not_le]); omega)) ?_)
    | (with_reducible refine ite_pos (by first | assumption | (simp only [decide_true, decide_false, Bool.not_true, Bool.not_false, eq_self, Bool.false_eq_true, not_false_eq_true]; done) | ((try simp only [beq_iff_eq, bne_iff_ne, decide_eq_true_eq, ne_eq, Bool.not_eq_true', decide_eq_false_iff_not, Int.not_lt, Int.not_le]); omega)) ?_))
  k_with "mine:compareOp NotIn" => (k_here; (with_reducible show wpAny _ _ (compareOp CmpOp.NotIn (Value.int _ _) (Value.ref _)) _ _ _); (with_reducible refine' notIn_range ?mk1 ?mk2 ?mk3 ?_); (case mk1 => k_dflt assumption); (case mk2 => omega); (case mk3 => omega))
  k_with "mine:compareOp NotIn int ref" => (walk_at "compareOp NotIn")
  k_with "mine:binaryOp FloorDiv int int" => (k_here; (with_reducible refine' fdiv_r ?me ?mk2 ?mk3 ?_); (case me => first | assumption | exact rfl); (case mk2 => first | decide | omega); (case mk3 => first | decide | omega); intro t'w)
  k_with "mine:binaryOp Mod int int" => (k_here; (with_reducible refine' fmod_r ?me ?mk2 ?_); (case me => first | assumption | exact rfl); (case mk2 => first | decide | omega); intro t'w)
  trivial
/-- a comprehension over a tuple of the ledger -/
noncomputable def TSrc (ax : Addr) (its : Array Value) (news : List (Addr × Obj)) : Prop := False ∨ ∃ o, (ax, o) ∈ news ∧ o.cls = .type "tuple" ∧ ∃ n, o.data = .seq its n
theorem TSrc.tup {h₀ h : Heap} {L ax : Addr} {its : Array Value} {news : List (Addr × Obj)} (x : TSrc ax its news) (N : News h₀ L h news) : h.IsTuple ax its := by
  rcases x with x | ⟨o, hm, r⟩
  · exact x.elim
  · exact ⟨o, (N _ hm).1, r⟩
section
variable {prog : Program} {w : World} {A : Around} {E : Value → Shared → Prop} {s : Shared} {h₀ : Heap} {L : Addr} {m : Str → Option Value} {env : Env}
theorem tup_st {ax I : Addr} {its : Array Value} : ∀ i (h h' : Heap) (o : Obj) (nw : List (Addr × Obj)), (h.IsTupleIter I ax i ∧ h.IsTuple ax its) → h.get? I = some o → h'.get? I = some o → (∀ b o, h₀.get? b = some o → h'.get? b = some o) → News h₀ L h' nw → TSrc ax its nw → (h'.IsTupleIter I ax i ∧ h'.IsTuple ax its) :=
  fun i h h' o nw st e e' _ N S => ⟨by obtain ⟨o', q, r⟩ := st.1; rw [e] at q; cases q; exact ⟨o, e', r⟩, S.tup N⟩
noncomputable def CTup (prog : Program) (w : World) (A : Around) (h₀ : Heap) (L : Addr) (m : Str → Option Value) (env : Env) (elt : Expr) (x : Str) (scope : Scope) (cl : List (Str × Addr)) (Fin : Shared → List Value → List (Addr × Obj) → Prop) (xv : Value) (s₁ : Shared) : Prop :=
  ∃ ax its news, xv = .ref ax ∧ A.handled = none ∧ Fr h₀ L s₁.heap m ∧ News h₀ L s₁.heap news ∧ TSrc ax its news ∧ its.size ≤ sizeLine ∧
    ∀ s₂ : Shared, (∃ h, s₂ = { s₁ with heap := h }) → LCg.CompRest prog w A h₀ L m env elt x scope cl s₂ (TSrc ax its) (fun i v => its[i]? = some v) (Fin s₂) its.size 0 [] news
theorem CTup.at {elt : Expr} {x : Str} {scope : Scope} {cl : List (Str × Addr)} {Fin : Shared → List Value → List (Addr × Obj) → Prop} {ax : Addr} {its : Array Value} {news : List (Addr × Obj)} {s₁ : Shared}
    (hh : A.handled = none) (F : Fr h₀ L s₁.heap m) (N : News h₀ L s₁.heap news) (hm : (ax, tupO its) ∈ news) (hsz : its.size ≤ sizeLine)
    (h : ∀ g, LCg.CompRest prog w A h₀ L m env elt x scope cl { s₁ with heap := g } (TSrc ax its) (fun i v => its[i]? = some v) (Fin { s₁ with heap := g }) its.size 0 [] news) :
    CTup prog w A h₀ L m env elt x scope cl Fin (.ref ax) s₁ := ⟨ax, its, news, rfl, hh, F, N, .inr ⟨_, hm, rfl, _, rfl⟩, hsz, fun _ ⟨g, e⟩ => e ▸ h g⟩
theorem comp_tup {elt iter : Expr} {x : Str} {px : Pos} {scope : Scope} {cl : List (Str × Addr)} {pos : Pos} {Q : Value → Shared → Prop} (F₀ : Fr h₀ L s.heap m)
    (hclos : closureFor scope env = pure cl) (hcell : ∀ y ∈ scope.names, y.2 ≠ .cell) (hkind : scope.kind = .function)
    (hnames : ∀ y ∈ scope.names, y.2 = .local → scope.names.lookup y.1 = some .local) (hx : scope.names.lookup x = some .local)
    (h : wpAny (model prog w) A (eval iter env) (CTup prog w A h₀ L m env elt x scope cl (fun s₂ => LCg.FinE h₀ L m s₂ Q)) E s)
    (hs : ∀ x, foldedSetIterable iter env x = pure x := by intro _; rfl) :
    wpAny (model prog w) A (eval (.ListComp elt [⟨.Name x px, iter, [], 0⟩] scope pos) env) Q E s := by
  rw [eval_ListComp]
  refine wpAny_comprehension_free (use := none) rfl hs hclos hkind hnames (wpAny_mono h (fun xv s₁ h₁ => ?_) fun _ _ e => e)
  obtain ⟨ax, its, news, rfl, hh, F, N, S, hsz, R⟩ := h₁
  have hl := S.tup N
  have hlt : ax < s₁.heap.objs.size := by obtain ⟨_, e, _⟩ := hl; exact Heap.lt_size e
  refine wpAny_pyIter_tuple hl ?_
  have up : ∀ b o, s₁.heap.get? b = some o → (s₁.heap.push { cls := .type "tuple_iterator", data := .fields #[.ref ax, .int 0 0] }).get? b = some o := fun b o e => Heap.get?_push_of_some _ e
  refine LCg.block_U (Walks.tuple hh s₁.heap.objs.size ax (Nat.ne_of_lt hlt) its) hsz (fun i h st => by obtain ⟨o, e, _⟩ := st.1; exact ⟨o, e⟩) tup_st hcell hkind hx ⟨⟨_, Heap.get?_push_size _ rfl, rfl, rfl⟩, hl.push _⟩ (fun b hb => ?_)
    (F.keeps up) (N.grown up) (Nat.ne_of_lt F.ns.lt) (next_is_new F) (fun p hp => Nat.ne_of_lt (Heap.lt_size (N p hp).1)) S (R _ ⟨_, rfl⟩) ?_
  · show b < (s₁.heap.push _).objs.size
    rw [Heap.size_push]
    rcases List.mem_cons.mp hb with rfl | hb
    · exact Nat.lt_succ_self _
    · rw [List.mem_singleton.mp hb]; exact Nat.lt_succ_of_lt hlt
  · intro D C h tk m' ys news' F' N' o1 hn hC₀ hD₀ hCL hDL hCD offC fin
    refine ⟨m', hn, fun h'' hs'' => fin D h'' tk (F'.change hs'' hCL hC₀) (fun p hp => ?_) o1⟩
    refine ⟨hs''.extBut _ _ ?_ (N' p hp).1, (N' p hp).2⟩
    rcases List.mem_cons.mp hp with rfl | hp
    · exact Ne.symm hCD
    · exact offC p hp
noncomputable def CTupT (prog : Program) (w : World) (A : Around) (h₀ : Heap) (L : Addr) (m : Str → Option Value) (env : Env) (ct elt : Expr) (x : Str) (scope : Scope) (cl : List (Str × Addr)) (Fin : Shared → List Value → List (Addr × Obj) → Prop) (xv : Value) (s₁ : Shared) : Prop :=
  ∃ ax its news, xv = .ref ax ∧ A.handled = none ∧ Fr h₀ L s₁.heap m ∧ News h₀ L s₁.heap news ∧ TSrc ax its news ∧ its.size ≤ sizeLine ∧
    ∀ s₂ : Shared, (∃ h, s₂ = { s₁ with heap := h }) → LCt.CompRestT prog w A h₀ L m env ct elt x scope cl s₂ (TSrc ax its) (fun i v => its[i]? = some v) (Fin s₂) its.size 0 [] news
theorem CTupT.at {ct elt : Expr} {x : Str} {scope : Scope} {cl : List (Str × Addr)} {Fin : Shared → List Value → List (Addr × Obj) → Prop} {ax : Addr} {its : Array Value} {news : List (Addr × Obj)} {s₁ : Shared}
    (hh : A.handled = none) (F : Fr h₀ L s₁.heap m) (N : News h₀ L s₁.heap news) (hm : (ax, tupO its) ∈ news) (hsz : its.size ≤ sizeLine)
    (h : ∀ g, LCt.CompRestT prog w A h₀ L m env ct elt x scope cl { s₁ with heap := g } (TSrc ax its) (fun i v => its[i]? = some v) (Fin { s₁ with heap := g }) its.size 0 [] news) :
    CTupT prog w A h₀ L m env ct elt x scope cl Fin (.ref ax) s₁ := ⟨ax, its, news, rfl, hh, F, N, .inr ⟨_, hm, rfl, _, rfl⟩, hsz, fun _ ⟨g, e⟩ => e ▸ h g⟩
theorem comp_tupT {ct elt iter : Expr} {x : Str} {px : Pos} {scope : Scope} {cl : List (Str × Addr)} {pos : Pos} {Q : Value → Shared → Prop} (F₀ : Fr h₀ L s.heap m)
    (hclos : closureFor scope env = pure cl) (hcell : ∀ y ∈ scope.names, y.2 ≠ .cell) (hkind : scope.kind = .function)
    (hnames : ∀ y ∈ scope.names, y.2 = .local → scope.names.lookup y.1 = some .local) (hx : scope.names.lookup x = some .local)
    (h : wpAny (model prog w) A (eval iter env) (CTupT prog w A h₀ L m env ct elt x scope cl (fun s₂ => LCg.FinE h₀ L m s₂ Q)) E s)
    (hs : ∀ x, foldedSetIterable iter env x = pure x := by intro _; rfl) :
    wpAny (model prog w) A (eval (.ListComp elt [⟨.Name x px, iter, [ct], 0⟩] scope pos) env) Q E s := by
  rw [eval_ListComp]
  refine wpAny_comprehension_free (use := none) rfl hs hclos hkind hnames (wpAny_mono h (fun xv s₁ h₁ => ?_) fun _ _ e => e)
  obtain ⟨ax, its, news, rfl, hh, F, N, S, hsz, R⟩ := h₁
  have hl := S.tup N
  have hlt : ax < s₁.heap.objs.size := by obtain ⟨_, e, _⟩ := hl; exact Heap.lt_size e
  refine wpAny_pyIter_tuple hl ?_
  have up : ∀ b o, s₁.heap.get? b = some o → (s₁.heap.push { cls := .type "tuple_iterator", data := .fields #[.ref ax, .int 0 0] }).get? b = some o := fun b o e => Heap.get?_push_of_some _ e
  refine LCt.block_T (Walks.tuple hh s₁.heap.objs.size ax (Nat.ne_of_lt hlt) its) hsz (fun i h st => by obtain ⟨o, e, _⟩ := st.1; exact ⟨o, e⟩) tup_st hcell hkind hx ⟨⟨_, Heap.get?_push_size _ rfl, rfl, rfl⟩, hl.push _⟩ (fun b hb => ?_)
    (F.keeps up) (N.grown up) (Nat.ne_of_lt F.ns.lt) (next_is_new F) (fun p hp => Nat.ne_of_lt (Heap.lt_size (N p hp).1)) S (R _ ⟨_, rfl⟩) ?_
  · show b < (s₁.heap.push _).objs.size
    rw [Heap.size_push]
    rcases List.mem_cons.mp hb with rfl | hb
    · exact Nat.lt_succ_self _
    · rw [List.mem_singleton.mp hb]; exact Nat.lt_succ_of_lt hlt
  · intro D C h tk m' ys news' F' N' o1 hn hC₀ hD₀ hCL hDL hCD offC fin
    refine ⟨m', hn, fun h'' hs'' => fin D h'' tk (F'.change hs'' hCL hC₀) (fun p hp => ?_) o1⟩
    refine ⟨hs''.extBut _ _ ?_ (N' p hp).1, (N' p hp).2⟩
    rcases List.mem_cons.mp hp with rfl | hp
    · exact Ne.symm hCD
    · exact offC p hp
end
section
variable {prog : Program} {w : World} {A A₀ : Around} {s : Shared} {K : Frag} {L : Addr} {h₀ base : Heap} {m mg mb : Str → Option Value} {news : List (Addr × Obj)} {p : Program} {loose : List Str} {mean : ExcName → Option Value}
/-- a def with cells, entered: as code_defP -/
theorem code_defPC {env : Env} {outer : List Env} {R : Result → Shared → Prop} {name qual : Str} {params : Arguments} {body : List Stmt} {scope : Scope} {dV kV doc pm cdv ct oc : Value} {an od : Option Addr} {osl : Array (Option Value)} {f : Addr} {args : Args} {binds : List (Str × Value)}
    (B : Below A₀ base outer h₀) (F : Fr h₀ L s.heap m) (X₀ : K.In h₀) (N : News h₀ L s.heap news) (T : Top p loose mean mg mb h₀) (hA : A.frames = some (env :: outer)) (hf : env.frame = some L) (hke : env.scope.kind = .function)
    (ho : K.lookup f = some ⟨oc, od, .func (fnOf name qual params body scope dV kV doc pm an cdv ct), osl⟩) (hcd : codeIn K cdv qual = true) (hroom : A.depth < recursionLimit)
    (hbind : BindsTo s (fnOf name qual params body scope dV kV doc pm an cdv ct) args binds) (hkind : (binds.all fun y => scope.names.lookup y.1 == some .local || scope.names.lookup y.1 == some .cell) = true)
    (hnd : ((cellsFrom 0 scope.names []).map (·.1)).Nodup)
    (h : ∀ g L' h₁ tk cells, Hid g s.heap news → Fr h₀ L g m → Fr g L' h₁ (bindL (envOfC qual scope L' f cdv).kindOf binds fun _ => none) → News g L' h₁ (cells ++ news) →
      CellsAre (bindC (envOfC qual scope L' f cdv).kindOf binds fun _ => none) (cellsFrom (L' + 1) scope.names []) cells → Below A base (env :: outer) g → K.In g → Top p loose mean mg mb g → (∀ p ∈ news, p.1 < L') →
      wpAny (model prog w) (A.deeper (envOfC qual scope L' f cdv)) (execs body (envOfC qual scope L' f cdv))
        (fun fl s' => LeaveK h₀ L m g R (match fl with | .ret v => v | _ => .none) s')
        (fun e s' => wpAny (model prog w) (A.deeper (envOfC qual scope L' f cdv)) (leaving (envOfC qual scope L' f cdv) e) (fun _ s'' => R (.error e) s'') (fun e' s'' => R (.error e') s'') s')
        { s with heap := h₁, toks := tk })
    (hco : scope.isCoroutine = false) (hgen : scope.isGenerator = false) (hk : scope.kind = .function) : codeAny (model prog w) A (.call (.ref f) args) R s := by
  obtain ⟨FG, BG, st, lv⟩ := groundX (R := R) B F N hA hf hke
  refine codeAny_call_function hroom ((X₀.keeps F.keep) _ _ ho) rfl hco hgen rfl (codeRec_of (X₀.keeps F.keep) hcd) (hbind _ _ _ _ ?_)
  refine wpAny_newFunctionEnv_cells hk (kindsX hkind _) fun env' he s' x => ?_
  subst he
  refine ⟨(T.nolimit.keeps F.keep).keeps x.toInCall.keep, codeAny_func ?_⟩
  obtain ⟨h₁, tk, rfl, _⟩ := x.done
  have hk₁ := x.toInCall.keep
  obtain ⟨cells, NC, Y⟩ := Cl.news (h₀ := s.heap) (Nat.le_refl _) fun n c hm => ⟨x.cell n c (lookup_of_mem_nodup (cellsFrom_names scope.names 0 (s.heap.objs.size + 1) [] [] rfl ▸ hnd) hm), x.above n c hm⟩
  refine wpAny_mono (h _ s.heap.objs.size h₁ tk cells rfl FG ⟨x.toInCall.ns, fun b o e => hk₁ b o (of_hideAll _ e), Nat.le_of_eq (hideAll_size _ _)⟩ (fun p hp => ?_) Y BG (X₀.keeps st) (T.keeps st) (fun p hp => Heap.lt_size (N p hp).1)) (fun fl s' hl => lv _ _ hl) fun _ _ y => y
  rcases List.mem_append.mp hp with hp | hp
  · refine ⟨(NC p hp).1, (NC p hp).2.1, ?_⟩
    cases q : (hideAll s.heap (news.map (·.1))).get? p.1 with
    | none => rfl
    | some o => have := of_hideAll _ q; rw [(NC p hp).2.2] at this; cases this
  · exact ⟨hk₁ _ _ (N p hp).1, Nat.ne_of_lt (Heap.lt_size (N p hp).1), hideAll_none _ (List.mem_map_of_mem hp)⟩
end
end
section
/-- the machine, n steps -/
noncomputable def stepN : Nat → Sre.M → Sre.M
  | 0, m => m
  | n + 1, m => stepN n m.step
theorem step_done {m : Sre.M} (h : m.outcome.isSome = true) : m.step = m := by unfold Sre.M.step; rw [if_pos h]
theorem stepN_done {m : Sre.M} (h : m.outcome.isSome = true) : ∀ n, stepN n m = m
  | 0 => rfl
  | n + 1 => by show stepN n m.step = m; rw [step_done h, stepN_done h n]
theorem stepN_add (a b : Nat) (m : Sre.M) : stepN (a + b) m = stepN b (stepN a m) := by
  induction a generalizing m with
  | zero => rw [Nat.zero_add]; rfl
  | succ a ih => rw [Nat.succ_add]; exact ih _
theorem runFor_stepN (n : Nat) (m : Sre.M) : m.runFor n = stepN n m := by
  induction n generalizing m with
  | zero => rfl
  | succ n ih =>
    unfold Sre.M.runFor
    by_cases h : m.outcome.isSome = true
    · rw [if_pos h, stepN_done h]
    · rw [if_neg h]; exact ih _
/-- m comes to f -/
noncomputable def Comes (m f : Sre.M) (n : Nat) : Prop := stepN n m = f
theorem Comes.trans {a b c : Sre.M} {m n : Nat} (h : Comes a b m) (k : Comes b c n) : Comes a c (m + n) := by
  unfold Comes at *; rw [stepN_add, h, k]
theorem drive {M : Model} {A : Around} {E : Value → Shared → Prop} {s : Shared} {Q : Sre.M → Shared → Prop} {f : Sre.M} (hf : f.outcome.isSome = true) (hQ : Q f s) :
    ∀ (n turns : Nat) (m : Sre.M), Comes m f n → n < 4 * turns → wpAny M A (Builtin.Re.reDrive turns m) Q E s := by
  intro n
  induction n using Nat.strongRecOn with
  | ind n ih =>
    intro turns m hc ht
    cases turns with
    | zero => omega
    | succ turns =>
      unfold Builtin.Re.reDrive
      have e4 : m.runFor Builtin.Re.reTurnSteps = stepN 4 m := runFor_stepN 4 m
      simp only [e4]
      refine wpAny_ite_split (fun h => ?_) (fun h => ?_)
      · have : stepN 4 m = f := by
          rcases Nat.le_total n 4 with h4 | h4
          · have e : stepN (n + (4 - n)) m = stepN 4 m := by congr 1; omega
            rw [← e, stepN_add, show stepN n m = f from hc, stepN_done hf]
          · have e : stepN (4 + (n - 4)) m = stepN n m := by congr 1; omega
            rw [stepN_add, stepN_done h] at e
            rw [e]; exact hc
        rw [this]; exact wpAny_pure hQ
      · refine wpAny_bind (wpAny_rule ?_)
        by_cases h4 : n ≤ 4
        · exfalso
          have e : stepN (n + (4 - n)) m = stepN 4 m := by congr 1; omega
          rw [stepN_add, show stepN n m = f from hc, stepN_done hf] at e
          rw [← e] at h; exact h hf
        · refine ih (n - 4) (by omega) turns _ ?_ (by omega)
          have e : stepN (4 + (n - 4)) m = stepN n m := by congr 1; omega
          rw [stepN_add] at e
          exact e.trans hc
theorem rules_pass {M : Model} {A : Around} {E : Value → Shared → Prop} {s : Shared} {Q : PUnit → Shared → Prop} (c : Nat → Bool) (nm : Nat → String) (hQ : Q ⟨⟩ s) :
    ∀ l : List Nat, wpAny M A (forIn l PUnit.unit (fun i _ => if c i = true then (do rule (nm i); pure (ForInStep.yield PUnit.unit)) else pure (ForInStep.yield PUnit.unit))) Q E s
  | [] => by rw [List.forIn_nil]; exact wpAny_pure hQ
  | i :: r => by
    rw [List.forIn_cons]
    refine wpAny_bind ?_
    by_cases h : c i = true
    · rw [if_pos h]
      exact wpAny_bind (wpAny_rule (wpAny_pure (rules_pass c nm hQ r)))
    · rw [if_neg h]
      exact wpAny_pure (rules_pass c nm hQ r)
theorem to_end {M : Model} {A : Around} {E : Value → Shared → Prop} {s : Shared} {Q : Option Sre.M → Shared → Prop} {m f : Sre.M} {n : Nat} (hc : Comes m f n) (hn : n < 2 ^ 64) (hf : f.outcome.isSome = true)
    (hQ : (f.outcome = some .matched ∧ Q (some f) s) ∨ (f.outcome = some .failed ∧ Q none s)) : wpAny M A (Builtin.Re.reRunToEnd m) Q E s := by
  unfold Builtin.Re.reRunToEnd
  refine wpAny_bind (drive hf ?_ n (2 ^ 64) m hc (Nat.lt_of_lt_of_le hn (Nat.le_mul_of_pos_left _ (by decide))))
  refine wpAny_bind ?_
  refine rules_pass (fun i => f.seen.has i) (fun i => Sre.names.getD i "") ?_ _
  rcases hQ with ⟨h, hq⟩ | ⟨h, hq⟩
  · rw [h]; exact wpAny_pure hq
  · rw [h]; exact wpAny_pure hq

/-- the machine of the first pattern, about to try the place s -/
noncomputable abbrev code1 : Array Nat := #[14, 4, 0, 1, 1, 6, 1, 16, 46, 1]
noncomputable abbrev code2 : Array Nat := #[14, 9, 4, 1, 2, 16, 10, 16, 13, 0, 7, 7, 16, 13, 16, 10, 15, 18, 5, 16, 10, 15, 13, 11, 16, 13, 5, 5, 0, 16, 10, 1, 15, 2, 0, 1]
noncomputable def tryAt (code text : Array Nat) (pc s : Nat) (first : Bool) (seen : Sre.Seen) : Sre.M :=
  { code, text, lim := text.size, start := s, lastStart := text.size, pc, pos := s, handed := s, outermost := first, marks := #[],
    frames := [{ wait := .nextStart, pc, pos := s, outermost := first }], weight := 1, seen }
theorem search1 (text : Array Nat) (p : Nat) (hp : p < text.size) : Sre.forSearch code1 text 0 p text.size false = tryAt code1 text 5 p true (({} : Sre.Seen).add 14) := by
  have h1 : ¬ (p > text.size ∨ text.size - p < 1) := by omega
  have h : (decide (p > text.size) || decide (text.size - p < 1)) = false := by simpa using h1
  unfold Sre.forSearch
  show (if (decide (p > text.size) || decide (text.size - p < 1)) = true then _ else _) = _
  rw [h]
  rfl
theorem search_end (code text : Array Nat) (p : Nat) (hp : text.size ≤ p) (hl : (Sre.header code).1 = 1) : ∃ f, Comes (Sre.forSearch code text 0 p text.size false) f 1 ∧ f.outcome = some .failed := by
  have h1 : p > text.size ∨ text.size - p < 1 := by omega
  have h : (decide (p > text.size) || decide (text.size - p < 1)) = true := by simpa using h1
  unfold Sre.forSearch
  simp only [hl]
  rw [if_pos h]
  exact ⟨_, rfl, rfl⟩
end
section
open Sre Sre.M in
theorem t1_at (text : Array Nat) (s : Nat) (first : Bool) (seen : Sre.Seen) :
    (tryAt code1 text 5 s first seen).step = (if (s == 0 || text.getD (s - 1) 0 == 10) = true then { tryAt code1 text 5 s first ((seen.add 6).add 44) with pc := 7 } else ({ tryAt code1 text 5 s first ((seen.add 6).add 44) with answer := some false } : Sre.M)) := rfl
theorem t1_back (text : Array Nat) (s : Nat) (first : Bool) (seen : Sre.Seen) (pc : Nat) :
    ({ tryAt code1 text 5 s first seen with answer := some false, pc := pc } : Sre.M).step = (if s < text.size then tryAt code1 text 5 (s + 1) false seen else ({ tryAt code1 text 5 s first seen with answer := some false, frames := [], weight := 0 } : Sre.M)) := rfl
theorem t1_lit (text : Array Nat) (s : Nat) (first : Bool) (seen : Sre.Seen) :
    ({ tryAt code1 text 5 s first seen with pc := 7 } : Sre.M).step = (if s ≥ text.size then ({ tryAt code1 text 5 s first (seen.add 16) with pc := 7, answer := some false } : Sre.M) else
      (match (text.getD s 0 == 46) with | false => ({ tryAt code1 text 5 s first (seen.add 16) with pc := 7, answer := some false } : Sre.M) | true => { tryAt code1 text 5 s first (seen.add 16) with pc := 9, pos := s + 1 })) := by
  show (if s ≥ text.size then _ else (match (Except.ok (text.getD s 0 == 46, seen.add 16) : Except String (Bool × Sre.Seen)) with | .error why => _ | .ok (false, seen) => _ | .ok (true, seen) => _)) = _
  cases (text.getD s 0 == 46) <;> rfl
theorem t1_end (text : Array Nat) (s : Nat) (first : Bool) (seen : Sre.Seen) :
    stepN 3 ({ tryAt code1 text 5 s first seen with pc := 9, pos := s + 1 } : Sre.M) = ({ tryAt code1 text 5 s first (seen.add 1) with handed := s + 1, answer := some true, frames := [], weight := 0, outcome := some .matched } : Sre.M) := by
  cases first <;> rfl
/-- the places at which the first pattern matches -/
noncomputable def dotAt (text : Array Nat) (s : Nat) : Bool := (s == 0 || text.getD (s - 1) 0 == 10) && decide (s < text.size) && text.getD s 0 == 46
theorem t1_yes {text : Array Nat} {s : Nat} (first : Bool) (seen : Sre.Seen) (h : dotAt text s = true) : ∃ f, Comes (tryAt code1 text 5 s first seen) f 5 ∧ f.outcome = some .matched ∧ f.start = s ∧ f.handed = s + 1 := by
  unfold dotAt at h
  simp only [Bool.and_eq_true, decide_eq_true_eq] at h
  obtain ⟨⟨h1, h2⟩, h3⟩ := h
  refine ⟨{ tryAt code1 text 5 s first ((((seen.add 6).add 44).add 16).add 1) with handed := s + 1, answer := some true, frames := [], weight := 0, outcome := some .matched }, ?_, rfl, rfl, rfl⟩
  · show stepN 4 (tryAt code1 text 5 s first seen).step = _
    rw [t1_at, if_pos h1]
    show stepN 3 ({ tryAt code1 text 5 s first ((seen.add 6).add 44) with pc := 7 } : Sre.M).step = _
    rw [t1_lit, if_neg (by omega), h3]
    exact t1_end ..
theorem t1_no {text : Array Nat} {s : Nat} (first : Bool) (seen : Sre.Seen) (hs : s < text.size) (h : dotAt text s = false) : ∃ seen' n, n ≤ 3 ∧ Comes (tryAt code1 text 5 s first seen) (tryAt code1 text 5 (s + 1) false seen') n := by
  unfold dotAt at h
  by_cases h1 : (s == 0 || text.getD (s - 1) 0 == 10) = true
  · have h3 : (text.getD s 0 == 46) = false := by rw [h1, decide_eq_true hs, Bool.true_and, Bool.true_and] at h; exact h
    refine ⟨((seen.add 6).add 44).add 16, 3, by omega, ?_⟩
    show stepN 2 (tryAt code1 text 5 s first seen).step = _
    rw [t1_at, if_pos h1]
    show stepN 1 ({ tryAt code1 text 5 s first ((seen.add 6).add 44) with pc := 7 } : Sre.M).step = _
    rw [t1_lit, if_neg (by omega), h3]
    show ({ tryAt code1 text 5 s first (((seen.add 6).add 44).add 16) with pc := 7, answer := some false } : Sre.M).step = _
    rw [t1_back, if_pos hs]
  · refine ⟨(seen.add 6).add 44, 2, by omega, ?_⟩
    show stepN 1 (tryAt code1 text 5 s first seen).step = _
    rw [t1_at, if_neg h1]
    exact (t1_back text s first _ 5).trans (if_pos hs)
theorem t1_last {text : Array Nat} (first : Bool) (seen : Sre.Seen) : ∃ f n, n ≤ 4 ∧ Comes (tryAt code1 text 5 text.size first seen) f n ∧ f.outcome = some .failed := by
  by_cases h1 : (text.size == 0 || text.getD (text.size - 1) 0 == 10) = true
  · refine ⟨{ tryAt code1 text 5 text.size first (((seen.add 6).add 44).add 16) with pc := 5, answer := some false, frames := [], weight := 0, outcome := some .failed }, 4, by omega, ?_, rfl⟩
    show stepN 3 (tryAt code1 text 5 text.size first seen).step = _
    rw [t1_at, if_pos h1]
    show stepN 2 ({ tryAt code1 text 5 text.size first ((seen.add 6).add 44) with pc := 7 } : Sre.M).step = _
    rw [t1_lit, if_pos (Nat.le_refl _)]
    show stepN 1 ({ tryAt code1 text 5 text.size first (((seen.add 6).add 44).add 16) with pc := 7, answer := some false } : Sre.M).step = _
    rw [t1_back, if_neg (Nat.lt_irrefl _)]
    rfl
  · refine ⟨{ tryAt code1 text 5 text.size first ((seen.add 6).add 44) with pc := 5, answer := some false, frames := [], weight := 0, outcome := some .failed }, 3, by omega, ?_, rfl⟩
    show stepN 2 (tryAt code1 text 5 text.size first seen).step = _
    rw [t1_at, if_neg h1]
    show stepN 1 ({ tryAt code1 text 5 text.size first ((seen.add 6).add 44) with pc := 5, answer := some false } : Sre.M).step = _
    rw [t1_back, if_neg (Nat.lt_irrefl _)]
    rfl
/-- the next place from p on at which mlen is not nought -/
noncomputable def Next (text : Array Nat) (mlen : Nat → Nat) (p : Nat) (o : Option Nat) : Prop :=
  match o with
  | none => ∀ b, p ≤ b → b < text.size → mlen b = 0
  | some b => p ≤ b ∧ b < text.size ∧ 0 < mlen b ∧ b + mlen b ≤ text.size ∧ ∀ c, p ≤ c → c < b → mlen c = 0
/-- a search from p ends, and finds just the next place -/
noncomputable def Finds (code text : Array Nat) (mlen : Nat → Nat) : Prop :=
  ∀ p, p ≤ text.size → ∃ o f n, Next text mlen p o ∧ Comes (Sre.forSearch code text 0 p text.size false) f n ∧ n < 40 * text.size + 40 ∧
    match o with
    | none => f.outcome = some .failed
    | some b => f.outcome = some .matched ∧ f.start = b ∧ f.handed = b + mlen b
noncomputable def len1 (text : Array Nat) (s : Nat) : Nat := if dotAt text s = true then 1 else 0
theorem len1_no {text : Array Nat} {s : Nat} (h : dotAt text s = false) : len1 text s = 0 := by unfold len1; rw [h]; rfl
theorem len1_yes {text : Array Nat} {s : Nat} (h : dotAt text s = true) : len1 text s = 1 := by unfold len1; rw [h]; rfl
theorem from1 (text : Array Nat) : ∀ (k p : Nat) (first : Bool) (seen : Sre.Seen), text.size - p = k → p ≤ text.size → ∃ o f n, Next text (len1 text) p o ∧ Comes (tryAt code1 text 5 p first seen) f n ∧ n < 40 * k + 40 ∧
    match o with
    | none => f.outcome = some .failed
    | some b => f.outcome = some .matched ∧ f.start = b ∧ f.handed = b + len1 text b := by
  intro k
  induction k with
  | zero =>
    intro p first seen hk hp
    have e : p = text.size := by omega
    subst e
    obtain ⟨f, n, hn, hc, ho⟩ := t1_last first seen
    exact ⟨none, f, n, fun b h1 h2 => by omega, hc, by omega, ho⟩
  | succ k ih =>
    intro p first seen hk hp
    have hs : p < text.size := by omega
    cases h : dotAt text p with
    | true =>
      obtain ⟨f, hc, ho, h1, h2⟩ := t1_yes first seen h
      exact ⟨some p, f, 5, ⟨Nat.le_refl _, hs, by rw [len1_yes h]; decide, by rw [len1_yes h]; omega, fun c _ _ => by omega⟩, hc, by omega, ho, h1, by rw [h2, len1_yes h]⟩
    | false =>
      obtain ⟨seen', n, hn, hc⟩ := t1_no first seen hs h
      obtain ⟨o, f, n', hN, hc', hn', hf⟩ := ih (p + 1) false seen' (by omega) (by omega)
      refine ⟨o, f, n + n', ?_, hc.trans hc', by omega, hf⟩
      cases o with
      | none => intro b h1 h2; by_cases e : b = p
                · subst e; exact len1_no h
                · exact hN b (by omega) h2
      | some b =>
        obtain ⟨a1, a2, a3, a4, a5⟩ := hN
        refine ⟨by omega, a2, a3, a4, fun c h1 h2 => ?_⟩
        by_cases e : c = p
        · subst e; exact len1_no h
        · exact a5 c (by omega) h2
theorem finds1 (text : Array Nat) : Finds code1 text (len1 text) := by
  intro p hp
  by_cases h : p < text.size
  · obtain ⟨o, f, n, h1, h2, h3, h4⟩ := from1 text _ p true (({} : Sre.Seen).add 14) rfl hp
    refine ⟨o, f, n, h1, ?_, by omega, h4⟩
    rw [search1 text p h]; exact h2
  · obtain ⟨f, hc, ho⟩ := search_end code1 text p (by omega) rfl
    exact ⟨none, f, 1, fun b h1 h2 => by omega, hc, by omega, ho⟩
end
section
open Sre Sre.M in
theorem lit_step {m : Sre.M} {w : Nat} (h1 : m.outcome = none) (h2 : m.answer = none) (h3 : m.pc < m.code.size) (h4 : m.code.getD m.pc 0 = 16) (h5 : m.code.getD (m.pc + 1) 0 = w) :
    m.step = (if m.pos < m.lim ∧ m.text.getD m.pos 0 = w then ({ m with seen := m.seen.add 16, pc := m.pc + 2, pos := m.pos + 1 } : Sre.M) else ({ m with seen := m.seen.add 16, answer := some false } : Sre.M)) := by
  obtain ⟨code, text, lim, start, lastStart, wholeText, mustAdvance, pc, pos, handed, outermost, marks, lastmark, lastindex, loops, inner, frames, weight, answer, seen, outcome⟩ := m
  dsimp only at h1 h2 h3 h4 h5 ⊢
  subst h1 h2
  show (if pc < code.size then Sre.M.exec _ else _) = _
  rw [if_pos h3]
  have e0 : Sre.M.word { code, text, lim, start, lastStart, wholeText, mustAdvance, pc, pos, handed, outermost, marks, lastmark, lastindex, loops, inner, frames, weight, answer := none, seen, outcome := none } 0 = 16 := h4
  unfold Sre.M.exec
  rw [e0]
  have ea : ∀ c sn, Sre.accepts code pc c sn = .ok (c == w, sn) := by
    intro c sn
    unfold Sre.accepts
    rw [h4, h5]
    rfl
  have ew : Sre.itemWidth code pc = 2 := by unfold Sre.itemWidth; rw [h4]; rfl
  show (if pos ≥ lim then _ else (match Sre.accepts code pc (text.getD pos 0) (seen.add 16) with | .error why => _ | .ok (false, seen) => _ | .ok (true, seen) => _)) = _
  rw [ea]
  by_cases hp : pos < lim
  · rw [if_neg (by omega)]
    by_cases hw : text.getD pos 0 = w
    · rw [if_pos ⟨hp, hw⟩]
      have hb : (text.getD pos 0 == w) = true := by rw [hw]; exact beq_self_eq_true w
      rw [hb]
      rw [ew]
    · rw [if_neg (fun h => hw h.2)]
      have hb : (text.getD pos 0 == w) = false := beq_eq_false_iff_ne.mpr hw
      rw [hb]
      rfl
  · rw [if_pos (by omega), if_neg (fun h => hp h.1)]
    rfl
theorem lit_yes {m : Sre.M} (w : Nat) (h1 : m.outcome = none) (h2 : m.answer = none) (h3 : m.pc < m.code.size) (h4 : m.code.getD m.pc 0 = 16) (h5 : m.code.getD (m.pc + 1) 0 = w) (h6 : m.pos < m.lim) (h7 : m.text.getD m.pos 0 = w) :
    m.step = ({ m with seen := m.seen.add 16, pc := m.pc + 2, pos := m.pos + 1 } : Sre.M) := (lit_step h1 h2 h3 h4 h5).trans (if_pos ⟨h6, h7⟩)
theorem lit_no {m : Sre.M} (w : Nat) (h1 : m.outcome = none) (h2 : m.answer = none) (h3 : m.pc < m.code.size) (h4 : m.code.getD m.pc 0 = 16) (h5 : m.code.getD (m.pc + 1) 0 = w) (h6 : ¬ (m.pos < m.lim ∧ m.text.getD m.pos 0 = w)) :
    m.step = ({ m with seen := m.seen.add 16, answer := some false } : Sre.M) := (lit_step h1 h2 h3 h4 h5).trans (if_neg h6)
/-- the place s tried; alternative a is under way, at pc and pos -/
noncomputable def brAt (text : Array Nat) (s : Nat) (first : Bool) (seen : Sre.Seen) (a pc pos : Nat) : Sre.M :=
  { tryAt code2 text 10 s first seen with pc, pos, frames := [{ wait := .nextBranch, pc := a, pos := s, outermost := first }, { wait := .nextStart, pc := 10, pos := s, outermost := first }], weight := 2 }
noncomputable def wonAt (text : Array Nat) (s : Nat) (first : Bool) (seen : Sre.Seen) (e : Nat) : Sre.M :=
  { tryAt code2 text 10 s first seen with pc := 10, pos := s, handed := e, answer := some true, frames := [], weight := 0, outcome := some .matched }
theorem br_first (text : Array Nat) (s : Nat) (first : Bool) (seen : Sre.Seen) : (tryAt code2 text 10 s first seen).step = brAt text s first (seen.add 7) 11 12 s := rfl
theorem br_jump16 (text : Array Nat) (s : Nat) (first : Bool) (seen : Sre.Seen) (a pos : Nat) : (brAt text s first seen a 16 pos).step = brAt text s first (seen.add 15) a 35 pos := rfl
theorem br_jump21 (text : Array Nat) (s : Nat) (first : Bool) (seen : Sre.Seen) (a pos : Nat) : (brAt text s first seen a 21 pos).step = brAt text s first (seen.add 15) a 35 pos := rfl
theorem br_jump32 (text : Array Nat) (s : Nat) (first : Bool) (seen : Sre.Seen) (a pos : Nat) : (brAt text s first seen a 32 pos).step = brAt text s first (seen.add 15) a 35 pos := rfl
theorem won1 (text : Array Nat) (s : Nat) (first : Bool) (seen : Sre.Seen) (a pos hd : Nat) : ({ brAt text s first seen a 35 pos with handed := hd } : Sre.M).step = ({ brAt text s first (seen.add 1) a 35 pos with handed := pos, answer := some true } : Sre.M) := by
  cases first <;> rfl
theorem won2 (text : Array Nat) (s : Nat) (first : Bool) (seen : Sre.Seen) (a pos hd : Nat) : ({ brAt text s first seen a 35 pos with handed := hd, answer := some true } : Sre.M).step = ({ tryAt code2 text 10 s first seen with pc := a, handed := hd, answer := some true } : Sre.M) := rfl
theorem won3 (text : Array Nat) (s : Nat) (first : Bool) (seen : Sre.Seen) (a hd : Nat) : ({ tryAt code2 text 10 s first seen with pc := a, handed := hd, answer := some true } : Sre.M).step = ({ tryAt code2 text 10 s first seen with handed := hd, answer := some true, frames := [], weight := 0 } : Sre.M) := rfl
theorem won4 (text : Array Nat) (s : Nat) (first : Bool) (seen : Sre.Seen) (hd : Nat) : ({ tryAt code2 text 10 s first seen with handed := hd, answer := some true, frames := [], weight := 0 } : Sre.M).step = wonAt text s first seen hd := rfl
theorem br_wonH (text : Array Nat) (s : Nat) (first : Bool) (seen : Sre.Seen) (a pos hd : Nat) : stepN 4 ({ brAt text s first seen a 35 pos with handed := hd } : Sre.M) = wonAt text s first (seen.add 1) pos := by
  show stepN 3 ({ brAt text s first seen a 35 pos with handed := hd } : Sre.M).step = _
  rw [won1]
  show stepN 2 ({ brAt text s first (seen.add 1) a 35 pos with handed := pos, answer := some true } : Sre.M).step = _
  rw [won2]
  show stepN 1 ({ tryAt code2 text 10 s first (seen.add 1) with pc := a, handed := pos, answer := some true } : Sre.M).step = _
  rw [won3]
  exact won4 ..
theorem br_won (text : Array Nat) (s : Nat) (first : Bool) (seen : Sre.Seen) (a pos : Nat) : stepN 4 (brAt text s first seen a 35 pos) = wonAt text s first (seen.add 1) pos := br_wonH text s first seen a pos s
theorem br_next11 (text : Array Nat) (s : Nat) (first : Bool) (seen : Sre.Seen) (pc pos : Nat) : ({ brAt text s first seen 11 pc pos with answer := some false } : Sre.M).step = brAt text s first seen 18 19 s := rfl
theorem br_next18 (text : Array Nat) (s : Nat) (first : Bool) (seen : Sre.Seen) (pc pos : Nat) : ({ brAt text s first seen 18 pc pos with answer := some false } : Sre.M).step = brAt text s first seen 23 24 s := rfl
/-- under the look ahead -/
noncomputable def lookAt (text : Array Nat) (s : Nat) (first : Bool) (seen : Sre.Seen) (pos : Nat) : Sre.M :=
  { brAt text s first seen 23 29 pos with handed := pos, outermost := false, frames := { wait := .lookNot, pc := 26, pos := pos, outermost := first } :: (brAt text s first seen 23 29 pos).frames, weight := 3 }
theorem br_look (text : Array Nat) (s : Nat) (first : Bool) (seen : Sre.Seen) (pos : Nat) : (brAt text s first seen 23 26 pos).step = lookAt text s first (seen.add 5) pos := rfl
theorem look_back (text : Array Nat) (s : Nat) (first : Bool) (seen : Sre.Seen) (pos : Nat) : ({ lookAt text s first seen pos with answer := some false } : Sre.M).step = ({ brAt text s first seen 23 32 pos with handed := pos } : Sre.M) := rfl
theorem look_jump (text : Array Nat) (s : Nat) (first : Bool) (seen : Sre.Seen) (pos : Nat) : ({ brAt text s first seen 23 32 pos with handed := pos } : Sre.M).step = ({ brAt text s first (seen.add 15) 23 35 pos with handed := pos } : Sre.M) := rfl
theorem look_won (text : Array Nat) (s : Nat) (first : Bool) (seen : Sre.Seen) (pos : Nat) : stepN 5 ({ brAt text s first seen 23 32 pos with handed := pos } : Sre.M) = wonAt text s first ((seen.add 15).add 1) pos := by
  show stepN 4 ({ brAt text s first seen 23 32 pos with handed := pos } : Sre.M).step = _
  rw [look_jump]
  exact br_wonH ..
noncomputable def len2 (text : Array Nat) (s : Nat) : Nat := if s < text.size then (if text.getD s 0 = 13 then (if s + 1 < text.size ∧ text.getD (s + 1) 0 = 10 then 2 else 1) else if text.getD s 0 = 10 then 1 else 0) else 0
theorem t2_yes {text : Array Nat} {s : Nat} (first : Bool) (seen : Sre.Seen) (hs : s < text.size) (h : text.getD s 0 = 10 ∨ text.getD s 0 = 13) :
    ∃ f n, n < 20 ∧ Comes (tryAt code2 text 10 s first seen) f n ∧ f.outcome = some .matched ∧ f.start = s ∧ f.handed = s + len2 text s := by
  by_cases h13 : text.getD s 0 = 13
  · have L : ∀ sn, (brAt text s first sn 11 12 s).step = brAt text s first (sn.add 16) 11 14 (s + 1) := fun sn => lit_yes 13 rfl rfl (Nat.le_of_ble_eq_true rfl) rfl rfl hs h13
    by_cases h10 : s + 1 < text.size ∧ text.getD (s + 1) 0 = 10
    · refine ⟨_, 8, by omega, rfl, ?_⟩
      show (stepN 7 (tryAt code2 text 10 s first seen).step).outcome = _ ∧ (stepN 7 (tryAt code2 text 10 s first seen).step).start = _ ∧ (stepN 7 (tryAt code2 text 10 s first seen).step).handed = _
      have e : stepN 7 (tryAt code2 text 10 s first seen).step = wonAt text s first (((((seen.add 7).add 16).add 16).add 15).add 1) (s + 2) := by
        rw [br_first]
        show stepN 6 (brAt text s first (seen.add 7) 11 12 s).step = _
        rw [L]
        show stepN 5 (brAt text s first ((seen.add 7).add 16) 11 14 (s + 1)).step = _
        rw [show (brAt text s first ((seen.add 7).add 16) 11 14 (s + 1)).step = brAt text s first (((seen.add 7).add 16).add 16) 11 16 (s + 2) from lit_yes 10 rfl rfl (Nat.le_of_ble_eq_true rfl) rfl rfl h10.1 h10.2]
        show stepN 4 (brAt text s first (((seen.add 7).add 16).add 16) 11 16 (s + 2)).step = _
        rw [br_jump16]
        exact br_won ..
      rw [e]
      refine ⟨rfl, rfl, ?_⟩
      show s + 2 = s + len2 text s
      unfold len2
      rw [if_pos hs, if_pos h13, if_pos h10]
    · refine ⟨_, 15, by omega, rfl, ?_⟩
      show (stepN 14 (tryAt code2 text 10 s first seen).step).outcome = _ ∧ (stepN 14 (tryAt code2 text 10 s first seen).step).start = _ ∧ (stepN 14 (tryAt code2 text 10 s first seen).step).handed = _
      have h10' : ¬ text.getD s 0 = 10 := by rw [h13]; decide
      have e : ∃ sn, stepN 14 (tryAt code2 text 10 s first seen).step = wonAt text s first sn (s + 1) := by
        refine ⟨((((((((seen.add 7).add 16).add 16).add 16).add 16).add 5).add 16).add 15).add 1, ?_⟩
        rw [br_first]
        show stepN 13 (brAt text s first (seen.add 7) 11 12 s).step = _
        rw [L]
        show stepN 12 (brAt text s first ((seen.add 7).add 16) 11 14 (s + 1)).step = _
        rw [show (brAt text s first ((seen.add 7).add 16) 11 14 (s + 1)).step = ({ brAt text s first (((seen.add 7).add 16).add 16) 11 14 (s + 1) with answer := some false } : Sre.M) from lit_no 10 rfl rfl (Nat.le_of_ble_eq_true rfl) rfl rfl h10]
        show stepN 11 ({ brAt text s first (((seen.add 7).add 16).add 16) 11 14 (s + 1) with answer := some false } : Sre.M).step = _
        rw [br_next11]
        show stepN 10 (brAt text s first (((seen.add 7).add 16).add 16) 18 19 s).step = _
        rw [show (brAt text s first (((seen.add 7).add 16).add 16) 18 19 s).step = ({ brAt text s first ((((seen.add 7).add 16).add 16).add 16) 18 19 s with answer := some false } : Sre.M) from lit_no 10 rfl rfl (Nat.le_of_ble_eq_true rfl) rfl rfl (fun h => h10' h.2)]
        show stepN 9 ({ brAt text s first ((((seen.add 7).add 16).add 16).add 16) 18 19 s with answer := some false } : Sre.M).step = _
        rw [br_next18]
        show stepN 8 (brAt text s first ((((seen.add 7).add 16).add 16).add 16) 23 24 s).step = _
        rw [show (brAt text s first ((((seen.add 7).add 16).add 16).add 16) 23 24 s).step = brAt text s first (((((seen.add 7).add 16).add 16).add 16).add 16) 23 26 (s + 1) from lit_yes 13 rfl rfl (Nat.le_of_ble_eq_true rfl) rfl rfl hs h13]
        show stepN 7 (brAt text s first (((((seen.add 7).add 16).add 16).add 16).add 16) 23 26 (s + 1)).step = _
        rw [br_look]
        show stepN 6 (lookAt text s first ((((((seen.add 7).add 16).add 16).add 16).add 16).add 5) (s + 1)).step = _
        rw [show (lookAt text s first ((((((seen.add 7).add 16).add 16).add 16).add 16).add 5) (s + 1)).step = ({ lookAt text s first (((((((seen.add 7).add 16).add 16).add 16).add 16).add 5).add 16) (s + 1) with answer := some false } : Sre.M) from lit_no 10 rfl rfl (Nat.le_of_ble_eq_true rfl) rfl rfl h10]
        show stepN 5 ({ lookAt text s first (((((((seen.add 7).add 16).add 16).add 16).add 16).add 5).add 16) (s + 1) with answer := some false } : Sre.M).step = _
        rw [look_back]
        exact look_won ..
      obtain ⟨sn, e⟩ := e
      rw [e]
      refine ⟨rfl, rfl, ?_⟩
      show s + 1 = s + len2 text s
      unfold len2
      rw [if_pos hs, if_pos h13, if_neg h10]
  · have h10 : text.getD s 0 = 10 := h.resolve_right h13
    refine ⟨_, 9, by omega, rfl, ?_⟩
    show (stepN 8 (tryAt code2 text 10 s first seen).step).outcome = _ ∧ (stepN 8 (tryAt code2 text 10 s first seen).step).start = _ ∧ (stepN 8 (tryAt code2 text 10 s first seen).step).handed = _
    have e : ∃ sn, stepN 8 (tryAt code2 text 10 s first seen).step = wonAt text s first sn (s + 1) := by
      refine ⟨((((seen.add 7).add 16).add 16).add 15).add 1, ?_⟩
      rw [br_first]
      show stepN 7 (brAt text s first (seen.add 7) 11 12 s).step = _
      rw [show (brAt text s first (seen.add 7) 11 12 s).step = ({ brAt text s first ((seen.add 7).add 16) 11 12 s with answer := some false } : Sre.M) from lit_no 13 rfl rfl (Nat.le_of_ble_eq_true rfl) rfl rfl (fun h => h13 h.2)]
      show stepN 6 ({ brAt text s first ((seen.add 7).add 16) 11 12 s with answer := some false } : Sre.M).step = _
      rw [br_next11]
      show stepN 5 (brAt text s first ((seen.add 7).add 16) 18 19 s).step = _
      rw [show (brAt text s first ((seen.add 7).add 16) 18 19 s).step = brAt text s first (((seen.add 7).add 16).add 16) 18 21 (s + 1) from lit_yes 10 rfl rfl (Nat.le_of_ble_eq_true rfl) rfl rfl hs h10]
      show stepN 4 (brAt text s first (((seen.add 7).add 16).add 16) 18 21 (s + 1)).step = _
      rw [br_jump21]
      exact br_won ..
    obtain ⟨sn, e⟩ := e
    rw [e]
    refine ⟨rfl, rfl, ?_⟩
    show s + 1 = s + len2 text s
    unfold len2
    rw [if_pos hs, if_neg h13, if_pos h10]
end
section
theorem set2 (c : Nat) (seen : Sre.Seen) : ∃ sn, Sre.inSet code2 c code2.size 5 true seen = .ok (decide (c = 10 ∨ c = 13), sn) := by
  by_cases h : c = 10
  · subst h; exact ⟨_, rfl⟩
  · by_cases h' : c = 13
    · subst h'; exact ⟨_, rfl⟩
    · have e1 : (c == 10) = false := beq_eq_false_iff_ne.mpr h
      have e2 : (c == 13) = false := beq_eq_false_iff_ne.mpr h'
      refine ⟨((seen.add 16).add 16).add 0, ?_⟩
      rw [decide_eq_false (by omega)]
      show (if (c == 10) = true then _ else (if (c == 13) = true then _ else _)) = _
      rw [e1, e2]
      rfl
theorem admitted2 {m : Sre.M} (hc : m.code = code2) : ∀ (k s : Nat) (seen : Sre.Seen), m.lim - s < k →
    (∃ sn, m.admitted k s seen = .ok (none, sn) ∧ ∀ b, s ≤ b → b < m.lim → ¬ (m.text.getD b 0 = 10 ∨ m.text.getD b 0 = 13)) ∨
    ∃ b sn, m.admitted k s seen = .ok (some b, sn) ∧ s ≤ b ∧ b < m.lim ∧ (m.text.getD b 0 = 10 ∨ m.text.getD b 0 = 13) ∧ ∀ c, s ≤ c → c < b → ¬ (m.text.getD c 0 = 10 ∨ m.text.getD c 0 = 13) := by
  intro k
  induction k with
  | zero => intro s seen h; omega
  | succ k ih =>
    intro s seen h
    unfold Sre.M.admitted
    by_cases hs : s ≥ m.lim
    · rw [if_pos hs]
      exact .inl ⟨seen, rfl, fun b h1 h2 => by omega⟩
    · rw [if_neg hs, hc]
      obtain ⟨sn, e⟩ := set2 (m.text.getD s 0) seen
      rw [e]
      by_cases hm : m.text.getD s 0 = 10 ∨ m.text.getD s 0 = 13
      · rw [decide_eq_true hm]
        exact .inr ⟨s, sn, rfl, Nat.le_refl _, by omega, hm, fun c h1 h2 => by omega⟩
      · rw [decide_eq_false hm]
        rcases ih (s + 1) sn (by omega) with ⟨sn', e', hn⟩ | ⟨b, sn', e', h1, h2, h3, h4⟩
        · refine .inl ⟨sn', e', fun b h1 h2 => ?_⟩
          by_cases eq : b = s
          · subst eq; exact hm
          · exact hn b (by omega) h2
        · refine .inr ⟨b, sn', e', by omega, h2, h3, fun c h5 h6 => ?_⟩
          by_cases eq : c = s
          · subst eq; exact hm
          · exact h4 c (by omega) h6
/-- the second pattern's machine ahead of its first try -/
noncomputable def ahead2 (text : Array Nat) (p : Nat) (seen : Sre.Seen) : Sre.M :=
  { code := code2, text, lim := text.size, start := p, lastStart := text.size, pc := 10, pos := p, handed := p, marks := #[], seen }
theorem search2 (text : Array Nat) (p : Nat) (hp : p < text.size) : Sre.forSearch code2 text 0 p text.size false = (ahead2 text p (({} : Sre.Seen).add 14)).attemptFrom p true := by
  have h1 : ¬ (p > text.size ∨ text.size - p < 1) := by omega
  have h : (decide (p > text.size) || decide (text.size - p < 1)) = false := by simpa using h1
  unfold Sre.forSearch
  show (if (decide (p > text.size) || decide (text.size - p < 1)) = true then _ else _) = _
  rw [h]
  rfl
theorem len2_no {text : Array Nat} {s : Nat} (h : ¬ (text.getD s 0 = 10 ∨ text.getD s 0 = 13)) : len2 text s = 0 := by
  unfold len2
  rw [if_neg (fun e => h (.inr e)), if_neg (fun e => h (.inl e))]
  split <;> rfl
theorem len2_yes {text : Array Nat} {s : Nat} (hs : s < text.size) (h : text.getD s 0 = 10 ∨ text.getD s 0 = 13) : 0 < len2 text s ∧ s + len2 text s ≤ text.size := by
  by_cases h1 : text.getD s 0 = 13
  · by_cases h2 : s + 1 < text.size ∧ text.getD (s + 1) 0 = 10
    · have e : len2 text s = 2 := by unfold len2; rw [if_pos hs, if_pos h1, if_pos h2]
      omega
    · have e : len2 text s = 1 := by unfold len2; rw [if_pos hs, if_pos h1, if_neg h2]
      omega
  · have e : len2 text s = 1 := by unfold len2; rw [if_pos hs, if_neg h1, if_pos (h.resolve_right h1)]
    omega
theorem finds2 (text : Array Nat) : Finds code2 text (len2 text) := by
  intro p hp
  by_cases h : p < text.size
  · rw [search2 text p h]
    unfold Sre.M.attemptFrom
    rw [show (!(ahead2 text p (({} : Sre.Seen).add 14)).hasFirstSet) = false from rfl, if_neg Bool.false_ne_true]
    rcases admitted2 (m := ahead2 text p (({} : Sre.Seen).add 14)) rfl ((ahead2 text p (({} : Sre.Seen).add 14)).lim + 1 - p) p (ahead2 text p (({} : Sre.Seen).add 14)).seen (by show text.size - p < text.size + 1 - p; omega) with ⟨sn, e, hn⟩ | ⟨b, sn, e, h1, h2, h3, h4⟩
    · rw [e]
      exact ⟨none, _, 1, fun b h1 h2 => len2_no (hn b h1 h2), rfl, by omega, rfl⟩
    · rw [e]
      obtain ⟨f, n, hn, hc, ho, hs, hh⟩ := t2_yes true sn h2 h3
      obtain ⟨q1, q2⟩ := len2_yes h2 h3
      exact ⟨some b, f, n, ⟨h1, h2, q1, q2, fun c h5 h6 => len2_no (h4 c h5 h6)⟩, hc, by omega, ho, hs, hh⟩
  · obtain ⟨f, hc, ho⟩ := search_end code2 text p (by omega) rfl
    exact ⟨none, f, 1, fun b h1 h2 => by omega, hc, by omega, ho⟩
/-- the text from p on, each match turned into y -/
noncomputable def subL (text : Array Nat) (mlen : Nat → Nat) (y : List Nat) : (fuel p : Nat) → List Nat
  | 0, _ => []
  | k + 1, p => if p < text.size then (if 0 < mlen p then y ++ subL text mlen y k (p + mlen p) else text.getD p 0 :: subL text mlen y k (p + 1)) else []
theorem getD_extract (text : Array Nat) (p : Nat) (h : p < text.size) : (text.extract p (p + 1)).toList = [text.getD p 0] := by
  apply List.ext_getElem
  · simp; omega
  · intro i h1 h2
    simp at h1 h2 ⊢
    have : i = 0 := by omega
    subst this
    simp [h]
theorem extract_split (text : Array Nat) (p q r : Nat) (h1 : p ≤ q) (h2 : q ≤ r) : (text.extract p r).toList = (text.extract p q).toList ++ (text.extract q r).toList := by
  simp only [Array.toList_extract, List.extract_eq_take_drop]
  rw [show r - p = (q - p) + (r - q) from (Nat.sub_add_sub_cancel h2 h1).symm.trans (Nat.add_comm ..), List.take_add, List.drop_drop, Nat.add_sub_cancel' h1]
theorem subL_skip {text : Array Nat} {mlen : Nat → Nat} {y : List Nat} : ∀ (k p b : Nat), p ≤ b → b ≤ text.size → b - p ≤ k → (∀ c, p ≤ c → c < b → mlen c = 0) → subL text mlen y k p = (text.extract p b).toList ++ subL text mlen y (k - (b - p)) b := by
  intro k
  induction k with
  | zero =>
    intro p b h1 h2 h3 _
    have : b = p := by omega
    subst this
    simp
  | succ k ih =>
    intro p b h1 h2 h3 h4
    by_cases e : b = p
    · subst e; simp
    · have hp : p < text.size := by omega
      rw [show subL text mlen y (k + 1) p = text.getD p 0 :: subL text mlen y k (p + 1) by
        show (if p < text.size then (if 0 < mlen p then _ else _) else _) = _
        rw [if_pos hp, if_neg (by rw [h4 p (Nat.le_refl _) (by omega)]; omega)]]
      rw [ih (p + 1) b (by omega) h2 (by omega) (fun c h5 h6 => h4 c (by omega) h6), extract_split text p (p + 1) b (by omega) (by omega), getD_extract text p hp]
      rw [show b - p = b - (p + 1) + 1 from (Nat.sub_add_cancel (Nat.sub_pos_of_lt (Nat.lt_of_le_of_ne h1 (Ne.symm e)))).symm, Nat.add_sub_add_right]
      rfl
theorem subL_fuel {text : Array Nat} {mlen : Nat → Nat} {y : List Nat} : ∀ (k l p : Nat), text.size - p ≤ k → text.size - p ≤ l → subL text mlen y k p = subL text mlen y l p := by
  intro k
  induction k with
  | zero =>
    intro l p h1 h2
    cases l with
    | zero => rfl
    | succ l =>
      show [] = (if p < text.size then _ else _)
      rw [if_neg (by omega)]
  | succ k ih =>
    intro l p h1 h2
    cases l with
    | zero =>
      show (if p < text.size then _ else _) = []
      rw [if_neg (by omega)]
    | succ l =>
      show (if p < text.size then (if 0 < mlen p then _ else _) else _) = (if p < text.size then (if 0 < mlen p then _ else _) else _)
      by_cases hp : p < text.size
      · rw [if_pos hp, if_pos hp]
        by_cases hm : 0 < mlen p
        · rw [if_pos hm, if_pos hm, ih l (p + mlen p) (by omega) (by omega)]
        · rw [if_neg hm, if_neg hm, ih l (p + 1) (by omega) (by omega)]
      · rw [if_neg hp, if_neg hp]
/-- the text from p on, with each match turned -/
noncomputable def subF (text : Array Nat) (mlen : Nat → Nat) (y : List Nat) (p : Nat) : List Nat := subL text mlen y (text.size - p) p
theorem subF_none {text : Array Nat} {mlen : Nat → Nat} {y : List Nat} {p : Nat} (hp : p ≤ text.size) (h : Next text mlen p none) : subF text mlen y p = (text.extract p text.size).toList := by
  unfold subF
  rw [subL_skip _ p text.size hp (Nat.le_refl _) (Nat.le_refl _) (fun c h1 h2 => h c h1 h2), Nat.sub_self]
  show _ ++ [] = _
  rw [List.append_nil]
theorem subF_some {text : Array Nat} {mlen : Nat → Nat} {y : List Nat} {p b : Nat} (h : Next text mlen p (some b)) : subF text mlen y p = (text.extract p b).toList ++ (y ++ subF text mlen y (b + mlen b)) := by
  obtain ⟨h1, h2, h3, h4, h5⟩ := h
  unfold subF
  rw [subL_skip _ p b h1 (by omega) (by omega) h5]
  congr 1
  rw [show text.size - p - (b - p) = (text.size - b - 1) + 1 from (Nat.sub_sub_sub_cancel_right h1).trans (Nat.sub_add_cancel (Nat.sub_pos_of_lt h2)).symm]
  show (if b < text.size then (if 0 < mlen b then _ else _) else _) = _
  rw [if_pos h2, if_pos h3]
  congr 1
  exact subL_fuel _ _ _ (by omega) (by omega)
end
section
open Builtin Builtin.Re Builtin.Str in
theorem entry_sub_loop : entryFor table "re.Pattern.sub.loop" = some Builtin.«re.Pattern.sub.loop» := entryFor_of_tree (by kernel_rfl)
theorem quiet_sub_loop (args : Args) : (Code.builtin "re.Pattern.sub.loop" args).quiet = true := Code.quiet_builtin args (by decide +kernel)
/-- a compiled pattern of a text, without groups -/
noncomputable abbrev patO (src : Str) (t : Tok) (fl : Int) (u : Tok) (C : Addr) : Obj := { cls := .type "re.Pattern", data := .fields #[.str src t, .int fl u, .int 0 0, .none, .none, .ref C, .int 0 0] }
noncomputable def rawCode (code : Array Nat) : Array Value := code.map fun n : Nat => .int (n : Int) 0
section
variable {prog : Program} {w : World} {A : Around} {E : Value → Shared → Prop} {s : Shared} {P C : Addr} {src x : Str} {t t' u : Tok} {fl : Int} {code : Array Nat}
theorem raw_code (code : Array Nat) : ((rawCode code).map Builtin.Re.reRawOf).map (·.toNat) = code := by
  unfold rawCode
  rw [Array.map_map, Array.map_map]
  have : (fun n : Nat => ((Builtin.Re.reRawOf (.int (n : Int) 0)).toNat)) = id := by
    funext n; exact Int.toNat_natCast n
  show Array.map (fun n : Nat => ((Builtin.Re.reRawOf (.int (n : Int) 0)).toNat)) code = code
  rw [this, Array.map_id]
theorem whole_target {Q : Builtin.Re.ReTarget → Shared → Prop} (hP : s.heap.get? P = some (patO src t fl u C)) (hC : s.heap.get? C = some (tupO (rawCode code)))
    (h : Q { pattern := .ref P, string := .str x t', code, text := x.cps, kind := 0, groups := 0, pos := 0, lim := x.cps.size } s) :
    wpAny (model prog w) A (Builtin.Re.reWholeTarget (.ref P) (.str x t')) Q E s := by
  unfold Builtin.Re.reWholeTarget
  refine wpAny_bind (wpAny_fieldsOf hP rfl ?_)
  refine wpAny_bind ?_
  show wpAny _ _ (pure (x.cps, 0)) _ _ _
  refine wpAny_pure ?_
  show wpAny _ _ (Builtin.Re.reNoCollectionInside (.str x t') 0 >>= fun _ => Builtin.Re.reRawItems (.ref C) >>= fun c => pure ({ pattern := .ref P, string := .str x t', code := c.map (·.toNat), text := x.cps, kind := 0, groups := 0, pos := 0, lim := x.cps.size } : Builtin.Re.ReTarget)) _ _ _
  refine wpAny_bind ?_
  show wpAny _ _ (pure ()) _ _ _
  refine wpAny_pure ?_
  refine wpAny_bind ?_
  unfold Builtin.Re.reRawItems
  refine wpAny_bind (wpAny_seqItems hC rfl (wpAny_pure ?_))
  refine wpAny_pure ?_
  show Q { pattern := .ref P, string := .str x t', code := ((rawCode code).map Builtin.Re.reRawOf).map (·.toNat), text := x.cps, kind := 0, groups := 0, pos := 0, lim := x.cps.size } s
  rw [raw_code]; exact h
end
/-- the signs of some texts, one behind the other -/
noncomputable def flatL (l : List (Str × Tok)) : List Nat := (l.map fun p => p.1.cps.toList).flatten
theorem join_flat : ∀ l : List (Str × Tok), (Txt.join ⟨#[]⟩ (l.map (·.1))).cps.toList = flatL l := by
  have go : ∀ l : List (Str × Tok), (Str.join ⟨#[]⟩ (l.map (·.1))).cps.toList = flatL l := by
    intro l
    induction l with
    | nil => rfl
    | cons p r ih =>
      cases r with
      | nil => simp [flatL, Str.join]
      | cons q r =>
        show (p.1 ++ ⟨#[]⟩ ++ Str.join ⟨#[]⟩ ((q :: r).map (·.1))).cps.toList = _
        rw [Str.cps_append, Str.cps_append, Array.toList_append, Array.toList_append, ih]
        simp [flatL]
  intro l
  unfold Txt.join
  rw [StrLaws.glued_eq_join]; exact go l
theorem flatL_snoc (l : List (Str × Tok)) (p : Str × Tok) : flatL (l ++ [p]) = flatL l ++ p.1.cps.toList := by simp [flatL]
theorem join_ok {l : List (Str × Tok)} (h : (flatL l).length ≤ 16777216) : JoinOk ⟨#[]⟩ (l.map (·.1)) = true := by
  unfold JoinOk
  rw [Bool.not_eq_true', StrLaws.joinTotal]
  have e : ((l.map (·.1)).map (·.length)).sum = (flatL l).length := by
    unfold flatL
    rw [List.length_flatten, List.map_map, List.map_map]
    rfl
  rw [e]
  have e2 : (l.map (·.1)).length * (⟨#[]⟩ : Str).length = 0 := by
    show _ * 0 = 0
    rw [Nat.mul_zero]
  rw [e2]
  unfold Builtin.Str.tooLong sizeLine
  exact decide_eq_false (by omega)
open Builtin Builtin.Re in
theorem sub_tree (P : Addr) (x y : Str) (t u : Tok) (n p q : Nat) (D : Addr) : «re.Pattern.sub.loop» ⟨[.ref P, .str x t, .str y u, rawInt 0, rawInt 0, rawInt n, rawInt p, rawInt q, .bool false, .ref D, .bool false], []⟩ = (do
    let tg ← reWholeTarget (.ref P) (.str x t)
    let _ ← reLiteralCannotBeTurned (.str y u)
    match ← reNextFound tg ((q : Int)).toNat false with
    | some m =>
      let rest : Unit → Sem PySem.Fin := fun _ => do
        let item ← pure (Value.str y u)
        let _ ← updateSeq D fun z => z.push item
        again (.builtin "re.Pattern.sub.loop" ⟨[.ref P, .str x t, .str y u, rawInt 0, rawInt 0, rawInt ((n : Int) + 1), rawInt m.handed, rawInt m.handed, .bool (m.handed == m.start), .ref D, .bool false], []⟩)
      if ((p : Int)).toNat < m.start then do
        let sl ← reSlice tg.text tg.kind ((p : Int)).toNat m.start
        let r ← updateSeq D fun z => z.push sl
        rest r
      else rest ()
    | none =>
      let rest : Unit → Sem PySem.Fin := fun _ => do
        let joiner ← reSlice tg.text tg.kind 0 0
        let its ← seqItems? (.ref D)
        if (its.getD #[]).isEmpty = true then do
          let text ← pure joiner
          ret text
        else do
          let text ← call (Value.builtin (if (tg.kind == 0) = true then "str.join" else "bytes.join")) [joiner, .ref D]
          ret text
      if ((p : Int)).toNat < tg.lim then do
        let sl ← reSlice tg.text tg.kind ((p : Int)).toNat tg.lim
        let r ← updateSeq D fun z => z.push sl
        rest r
      else rest ()) := rfl
end
section
open Builtin Builtin.Re in
theorem next_found {M : Model} {A : Around} {E : Value → Shared → Prop} {s : Shared} {Q : Option Sre.M → Shared → Prop} {tg : ReTarget} {mlen : Nat → Nat} {p : Nat} (hF : Finds tg.code tg.text mlen) (hg : tg.groups = 0) (hl : tg.lim = tg.text.size) (hz : tg.text.size ≤ 100000) (hp : p ≤ tg.text.size)
    (hno : Next tg.text mlen p none → Q none s) (hyes : ∀ b f, Next tg.text mlen p (some b) → f.start = b → f.handed = b + mlen b → Q (some f) s) : wpAny M A (reNextFound tg p false) Q E s := by
  obtain ⟨o, f, n, hN, hc, hn, ho⟩ := hF p hp
  unfold reNextFound
  rw [hg, hl]
  have hn64 : n < 2 ^ 64 := Nat.lt_trans hn (by omega)
  cases o with
  | none => exact to_end hc hn64 (by rw [show f.outcome = _ from ho]; rfl) (.inr ⟨ho, hno hN⟩)
  | some b => exact to_end hc hn64 (by rw [ho.1]; rfl) (.inl ⟨ho.1, hyes b f hN ho.2.1 ho.2.2⟩)
theorem mk_str {M : Model} {A : Around} {E : Value → Shared → Prop} {s : Shared} {x : Str} {Q : Value → Shared → Prop} (hx : x.length ≤ sizeLine) (hq : Q (.str x s.toks) { s with toks := s.toks + 1 }) : wpAny M A (mkStr x) Q E s := wpAny_mkStr hq hx
theorem ext_len (x : Str) (a b : Nat) : (⟨x.cps.extract a b⟩ : Str).length ≤ x.cps.size := by
  show (x.cps.extract a b).size ≤ _
  simp; omega
open Builtin Builtin.Re in
theorem sub_loop {prog : Program} {w : World} {A : Around} {R : Result → Shared → Prop} {P C D : Addr} {src x y : Str} {t t' u u' : Tok} {fl : Int} {code : Array Nat} {mlen : Nat → Nat}
    (hF : Finds code x.cps mlen) (hz : x.cps.size ≤ 1000) (hDP : D ≠ P) (hDC : D ≠ C) (whole : List Nat) (hw : whole.length ≤ 100000) :
    ∀ (k p n : Nat) (s : Shared) (acc : Array Value) (c : Nat) (done : List (Str × Tok)), x.cps.size - p = k → p ≤ x.cps.size →
    s.heap.get? P = some (patO src t' fl u' C) → s.heap.get? C = some (tupO (rawCode code)) → s.heap.get? D = some { cls := .type "list", dict := none, data := .seq acc c, slots := #[] } →
    acc.toList = strValues done → done.length ≤ 2 * p → flatL done ++ subF x.cps mlen y.cps.toList p = whole →
    (∀ h' v tk, (∀ b o, b ≠ D → s.heap.get? b = some o → h'.get? b = some o) → R (.ok (.ret (.str ⟨whole.toArray⟩ v))) { s with heap := h', toks := tk }) →
    codeAny (model prog w) A (.builtin "re.Pattern.sub.loop" ⟨[.ref P, .str x t, .str y u, rawInt 0, rawInt 0, rawInt n, rawInt p, rawInt p, .bool false, .ref D, .bool false], []⟩) R s := by
  intro k
  induction k using Nat.strongRecOn with
  | ind k ih =>
    intro p n s acc c done hk hp hP hC hD hacc hdl hfl hR
    have hasz : acc.size ≤ 2000 := by
      have e1 : acc.toList.length = acc.size := by simp
      rw [hacc] at e1
      have e2 : (strValues done).length = done.length := by simp [strValues]
      omega
    have hsl : sizeLine = 16777216 := sizeLine_eq
    refine codeAny_builtin entry_sub_loop ?_
    rw [sub_tree]
    refine wpAny_bind (whole_target hP hC ?_)
    refine wpAny_bind ?_
    show wpAny _ _ (pure ()) _ _ _
    refine wpAny_pure (wpAny_bind ?_)
    rw [Int.toNat_natCast]
    refine next_found (tg := { pattern := .ref P, string := .str x t, code, text := x.cps, kind := 0, groups := 0, pos := 0, lim := x.cps.size }) hF rfl rfl (by show x.cps.size ≤ _; omega) hp (fun hN => ?_) (fun b f hN hs hh => ?_)
    · dsimp only at hN
      have ew := subF_none (y := y.cps.toList) hp hN
      dsimp only
      by_cases hl : p < x.cps.size
      · rw [if_pos hl]
        refine wpAny_bind ?_
        show wpAny _ _ (mkStr ⟨x.cps.extract p x.cps.size⟩) _ _ _
        have hel := ext_len x p x.cps.size
        refine mk_str (by omega) ?_
        refine wpAny_bind (wpAny_updateSeq (o := { cls := .type "list", dict := none, data := .seq acc c, slots := #[] }) hD rfl ?_ (by omega) (by rw [Array.size_push]; omega))
        have hD' := Heap.get?_update_self (Obj.mapSeq fun z => z.push (.str ⟨x.cps.extract p x.cps.size⟩ s.toks)) hD rfl
        refine wpAny_bind ?_
        show wpAny _ _ (mkStr ⟨x.cps.extract 0 0⟩) _ _ _
        have hel0 := ext_len x 0 0
        refine mk_str (by omega) ?_
        refine wpAny_bind (wpAny_seqItems hD' rfl ?_)
        rw [if_neg (by simp)]
        have hfl' : flatL (done ++ [((⟨x.cps.extract p x.cps.size⟩ : Str), s.toks)]) = whole := by rw [flatL_snoc, ← hfl, ew]
        refine wpAny_bind ?_
        show wpAny _ _ (call (Value.builtin "str.join") [.str ⟨x.cps.extract 0 0⟩ _, .ref D]) _ _ _
        rw [show x.cps.extract 0 0 = #[] by simp]
        have hea : (strValues (done ++ [((⟨x.cps.extract p x.cps.size⟩ : Str), s.toks)])).toArray = acc.push (.str ⟨x.cps.extract p x.cps.size⟩ s.toks) := by
          rw [← Array.toList_inj]
          simp [hacc, strValues]
        refine SC.join (l := done ++ [((⟨x.cps.extract p x.cps.size⟩ : Str), s.toks)]) (by rw [hea]; exact ⟨_, hD', rfl, _, rfl⟩) rfl (join_ok (by rw [hfl']; omega)) fun v tk => ?_
        · have e : Txt.join ⟨#[]⟩ ((done ++ [((⟨x.cps.extract p x.cps.size⟩ : Str), s.toks)]).map (·.1)) = ⟨whole.toArray⟩ := by
            refine Str.ext' ?_
            rw [← Array.toList_inj, join_flat, hfl']
          rw [e]
          exact wpAny_pure (hR _ _ _ fun b o hb e => (Heap.get?_update_other _ _ (fun h : D = b => hb h.symm)).trans e)
      · rw [if_neg hl]
        have hpe : p = x.cps.size := by omega
        have hfl' : flatL done = whole := by rw [← hfl, ew, hpe]; simp
        refine wpAny_bind ?_
        show wpAny _ _ (mkStr ⟨x.cps.extract 0 0⟩) _ _ _
        have hel0 := ext_len x 0 0
        refine mk_str (by omega) ?_
        refine wpAny_bind (wpAny_seqItems hD rfl ?_)
        by_cases he : done = []
        · have ha : acc = #[] := by rw [← Array.toList_inj, hacc, he]; rfl
          rw [if_pos (by rw [ha]; rfl)]
          refine wpAny_bind (wpAny_pure ?_)
          have ew' : whole = [] := by rw [← hfl', he]; rfl
          have e : (⟨x.cps.extract 0 0⟩ : Str) = ⟨whole.toArray⟩ := by rw [ew']; simp
          rw [e]
          exact wpAny_pure (hR _ _ _ fun b o hb e => e)
        · rw [if_neg (by
            intro h
            have h' : acc.isEmpty = true := h
            have h2 : acc = #[] := by simpa using h'
            rw [h2] at hacc
            cases done with
            | nil => exact he rfl
            | cons q r => simp [strValues] at hacc)]
          refine wpAny_bind ?_
          show wpAny _ _ (call (Value.builtin "str.join") [.str ⟨x.cps.extract 0 0⟩ _, .ref D]) _ _ _
          rw [show x.cps.extract 0 0 = #[] by simp]
          have hea : (strValues done).toArray = acc := by
            rw [← Array.toList_inj]
            simp [hacc]
          refine SC.join (l := done) (by rw [hea]; exact ⟨_, hD, rfl, _, rfl⟩) rfl (join_ok (by rw [hfl']; omega)) fun v tk => ?_
          · have e : Txt.join ⟨#[]⟩ (done.map (·.1)) = ⟨whole.toArray⟩ := by
              refine Str.ext' ?_
              rw [← Array.toList_inj, join_flat, hfl']
            rw [e]
            exact wpAny_pure (hR _ _ _ fun b o hb e => e)
    · dsimp only at hN
      have ew := subF_some (y := y.cps.toList) hN
      obtain ⟨h1, h2, h3, h4, h5⟩ := hN
      have hm0 : (f.handed == f.start) = false := by rw [hs, hh]; exact beq_eq_false_iff_ne.mpr (by omega)
      dsimp only
      rw [hm0, hh, hs]
      by_cases hl : p < b
      · rw [if_pos hl]
        refine wpAny_bind ?_
        show wpAny _ _ (mkStr ⟨x.cps.extract p b⟩) _ _ _
        have hel := ext_len x p b
        refine mk_str (by omega) ?_
        refine wpAny_bind (wpAny_updateSeq (o := { cls := .type "list", dict := none, data := .seq acc c, slots := #[] }) hD rfl ?_ (by omega) (by rw [Array.size_push]; omega))
        have hD' := Heap.get?_update_self (Obj.mapSeq fun z => z.push (.str ⟨x.cps.extract p b⟩ s.toks)) hD rfl
        refine wpAny_bind (wpAny_pure ?_)
        refine wpAny_bind (wpAny_updateSeq hD' rfl ?_ (by rw [Array.size_push]; omega) (by rw [Array.size_push, Array.size_push]; omega))
        have hD'' := Heap.get?_update_self (Obj.mapSeq fun z => z.push (.str y u)) hD' rfl
        refine wpAny_pure ⟨quiet_sub_loop _, ?_⟩
        refine ih (x.cps.size - (b + mlen b)) (by omega) (b + mlen b) (n + 1) _ ((acc.push (.str ⟨x.cps.extract p b⟩ s.toks)).push (.str y u)) _ (done ++ [((⟨x.cps.extract p b⟩ : Str), s.toks)] ++ [(y, u)]) rfl h4 ?_ ?_ hD'' ?_ ?_ ?_ ?_
        · exact (Heap.get?_update_other _ _ hDP).trans ((Heap.get?_update_other _ _ hDP).trans hP)
        · exact (Heap.get?_update_other _ _ hDC).trans ((Heap.get?_update_other _ _ hDC).trans hC)
        · simp [hacc, strValues]
        · simp; omega
        · rw [flatL_snoc, flatL_snoc, ← hfl, ew]; simp
        · intro h' v tk hh'
          exact hR h' v tk fun d o hd e => hh' d o hd ((Heap.get?_update_other _ _ (fun h : D = d => hd h.symm)).trans ((Heap.get?_update_other _ _ (fun h : D = d => hd h.symm)).trans e))
      · rw [if_neg hl]
        have hpb : p = b := by omega
        refine wpAny_bind (wpAny_pure ?_)
        refine wpAny_bind (wpAny_updateSeq hD rfl ?_ (by omega) (by rw [Array.size_push]; omega))
        have hD'' := Heap.get?_update_self (Obj.mapSeq fun z => z.push (.str y u)) hD rfl
        refine wpAny_pure ⟨quiet_sub_loop _, ?_⟩
        refine ih (x.cps.size - (b + mlen b)) (by omega) (b + mlen b) (n + 1) _ (acc.push (.str y u)) _ (done ++ [(y, u)]) rfl h4 ?_ ?_ hD'' ?_ ?_ ?_ ?_
        · exact (Heap.get?_update_other _ _ hDP).trans hP
        · exact (Heap.get?_update_other _ _ hDC).trans hC
        · simp [hacc, strValues]
        · simp; omega
        · rw [flatL_snoc, ← hfl, ew, hpb]; simp
        · intro h' v tk hh'
          exact hR h' v tk fun d o hd e => hh' d o hd ((Heap.get?_update_other _ _ (fun h : D = d => hd h.symm)).trans e)
end
section
theorem slot_sub : Slot "re.Pattern" "sub" "re.Pattern.sub" :=
  .of (owner := "re.Pattern") (n := "sub") (by rw [typeLookup_type, builtinLookup_eq_fast]; kernel_rfl) (by decide +kernel) (by decide +kernel) (by decide +kernel)
    (by first | exact .inl (by decide +kernel) | exact .inr (by decide +kernel)) (by rw [isSubtype_type]; kernel_rfl)
theorem entry_sub : entryFor table "re.Pattern.sub" = some Builtin.«re.Pattern.sub» := entryFor_of_tree (by kernel_rfl)
theorem args_sub (a b c : Value) : argsOk "re.Pattern.sub" ⟨[a, b, c], []⟩ := by
  unfold argsOk; kernel_rfl
theorem str_no_call : typeLookup (.type "str") (Str.ofString "__call__") = pure none := by rw [typeLookup_type, builtinLookup_eq_fast]; kernel_rfl
open Builtin Builtin.Re in
theorem sub_call {prog : Program} {w : World} {A : Around} {s : Shared} {Q E : Value → Shared → Prop} {P C : Addr} {src x y : Str} {t t' u u' : Tok} {fl : Int} {code : Array Nat} {mlen : Nat → Nat}
    (hF : Finds code x.cps mlen) (hz : x.cps.size ≤ 1000) (hy : y.cps.contains 92 = false) (hw : (subF x.cps mlen y.cps.toList 0).length ≤ 100000)
    (hP : s.heap.get? P = some (patO src t' fl u' C)) (hC : s.heap.get? C = some (tupO (rawCode code)))
    (hQ : ∀ h' v tk, Keeps s.heap h' → Q (.str ⟨(subF x.cps mlen y.cps.toList 0).toArray⟩ v) { s with heap := h', toks := tk }) :
    wpAny (model prog w) A (call (.builtin "re.Pattern.sub") [.ref P, .str y u, .str x t]) Q E s := by
  refine wpAny_call (codeAny_call_builtin slot_sub.plain entry_sub (slot_sub.check _ _ _ _ _ _ _ _ ⟨_, hP, rfl⟩ (args_sub _ _ _) ?_))
  show wpAny _ _ (reSubstitute "re.Pattern.sub" "sub" false ⟨[.ref P, .str y u, .str x t], []⟩) _ _ _
  unfold reSubstitute
  refine wpAny_bind ?_
  show wpAny _ _ (pure [some (Value.str y u), some (Value.str x t), none]) _ _ _
  refine wpAny_pure ?_
  refine wpAny_bind (wpAny_pure ?_)
  refine wpAny_bind (wpAny_specialOf_val (T := "str") rfl str_no_call ?_)
  refine wpAny_bind ?_
  show wpAny _ _ (pure (some y)) _ _ _
  refine wpAny_pure ?_
  refine wpAny_bind (wpAny_pure ?_)
  rw [hy]
  refine wpAny_bind (wpAny_pure ?_)
  refine wpAny_bind (wpAny_holding (whole_target hP hC ?_))
  refine wpAny_bind (wpAny_newList ?_)
  refine wpAny_pure ⟨quiet_sub_loop _, ?_⟩
  have hlt : P < s.heap.objs.size := Heap.lt_size hP
  have hlc : C < s.heap.objs.size := Heap.lt_size hC
  refine sub_loop (D := s.heap.objs.size) (p := 0) (n := 0) hF hz (Nat.ne_of_gt hlt) (Nat.ne_of_gt hlc) _ hw _ _ #[] _ [] rfl (Nat.zero_le _) (Heap.get?_push_of_some _ hP) (Heap.get?_push_of_some _ hC) (Heap.get?_push_size _ rfl) rfl (Nat.zero_le _) rfl fun h' v tk hk => ?_
  exact hQ h' v tk fun b o e => hk b o (Nat.ne_of_lt (Heap.lt_size e)) (Heap.get?_push_of_some _ e)
end
section
theorem plainAttrs_pat : PlainAttrs "re.Pattern" :=
  ⟨⟨"object.__getattribute__", by rw [typeLookup_type, builtinLookup_eq_fast]; kernel_rfl, by decide +kernel⟩, by rw [typeLookup_type, builtinLookup_eq_fast]; kernel_rfl⟩
theorem type_sub : typeOf (.builtin "re.Pattern.sub") = pure (.type "method_descriptor") := by show builtinType _ = _; rw [builtinType_eq_fast]; kernel_rfl
noncomputable def dotted (x : Str) : Str := ⟨(subF x.cps (len1 x.cps) [46, 46] 0).toArray⟩
noncomputable def crlfed (x : Str) : Str := ⟨(subF x.cps (len2 x.cps) [13, 10] 0).toArray⟩
section
variable {w : World} {A : Around} {s : Shared} {Q E : Value → Shared → Prop} {h₀ : Heap} {L : Addr} {m : Str → Option Value} {news : List (Addr × Obj)} {x y : Str} {t u : Tok}
theorem pat_at {P : Addr} {o : Obj} (X : (hd.heap_39 w.params).In h₀) (F : Fr h₀ L s.heap m) (e : (hd.heap_39 w.params).lookup P = some o) : s.heap.get? P = some o := X.keeps F.keep _ _ e
theorem pat_method {M : Model} {P C : Addr} {src : Str} {t' u' : Tok} {fl : Int} {pl : Sem Bool} {Q : Value × List Value → Shared → Prop} (X : (hd.heap_39 w.params).In h₀) (F : Fr h₀ L s.heap m) (e : (hd.heap_39 w.params).lookup P = some (patO src t' fl u' C))
    (h : Q (.builtin "re.Pattern.sub", [.ref P]) s) : wpAny M A (getMethod (.ref P) (Str.ofString "sub") pl) Q E s :=
  getMethod_builtin (T := "re.Pattern") ⟨_, pat_at X F e, rfl⟩ plainAttrs_pat slot_sub type_sub (fun a q => by cases q; exact ⟨_, pat_at X F e, rfl⟩) h
theorem dots_lit : (Str.ofString "..").cps = #[46, 46] := by decide +kernel
theorem crlf_lit : (Str.ofString "\r\n").cps = #[13, 10] := by decide +kernel
theorem raw1 : rawCode code1 = #[.int 14 0, .int 4 0, .int 0 0, .int 1 0, .int 1 0, .int 6 0, .int 1 0, .int 16 0, .int 46 0, .int 1 0] := by simp [rawCode]
theorem raw2 : rawCode code2 = #[.int 14 0, .int 9 0, .int 4 0, .int 1 0, .int 2 0, .int 16 0, .int 10 0, .int 16 0, .int 13 0, .int 0 0, .int 7 0, .int 7 0, .int 16 0, .int 13 0, .int 16 0, .int 10 0, .int 15 0, .int 18 0, .int 5 0, .int 16 0, .int 10 0, .int 15 0, .int 13 0, .int 11 0, .int 16 0, .int 13 0, .int 5 0, .int 5 0, .int 0 0, .int 16 0, .int 10 0, .int 1 0, .int 15 0, .int 2 0, .int 0 0, .int 1 0] := by simp [rawCode]
theorem sub1_r (X : (hd.heap_39 w.params).In h₀) (F : Fr h₀ L s.heap m) (N : News h₀ L s.heap news) (hz : x.cps.size ≤ 1000) (e : dotted x = y) (hy : y.cps.size ≤ 1000)
    (h : ∀ h' v tk, Fr h₀ L h' m → News h₀ L h' news → Q (.str y v) { s with heap := h', toks := tk }) :
    wpAny (model Challenge.rw_pe0121_01.row.prog w) A (call (.builtin "re.Pattern.sub") [.ref 36, .str (Str.ofString "..") u, .str x t]) Q E s := by
  have ey : (Str.ofString "..").cps.toList = [46, 46] := by rw [dots_lit]
  refine sub_call (code := code1) (mlen := len1 x.cps) (C := 35) (finds1 _) hz (by rw [dots_lit]; simp) ?_ (pat_at X F rfl) (by rw [raw1]; exact pat_at X F rfl) fun h' v tk k => ?_
  · rw [ey, show (subF x.cps (len1 x.cps) [46, 46] 0).length = (dotted x).cps.size by simp [dotted], e]; omega
  · rw [ey]
    have := h h' v tk (F.grownK k) (N.grown k)
    rw [← e] at this
    exact this
theorem sub2_r (X : (hd.heap_39 w.params).In h₀) (F : Fr h₀ L s.heap m) (N : News h₀ L s.heap news) (hz : x.cps.size ≤ 1000) (e : crlfed x = y) (hy : y.cps.size ≤ 1000)
    (h : ∀ h' v tk, Fr h₀ L h' m → News h₀ L h' news → Q (.str y v) { s with heap := h', toks := tk }) :
    wpAny (model Challenge.rw_pe0121_01.row.prog w) A (call (.builtin "re.Pattern.sub") [.ref 41, .str (Str.ofString "\r\n") u, .str x t]) Q E s := by
  have ey : (Str.ofString "\r\n").cps.toList = [13, 10] := by rw [crlf_lit]
  refine sub_call (code := code2) (mlen := len2 x.cps) (C := 40) (finds2 _) hz (by rw [crlf_lit]; simp) ?_ (pat_at X F rfl) (by rw [raw2]; exact pat_at X F rfl) fun h' v tk k => ?_
  · rw [ey, show (subF x.cps (len2 x.cps) [13, 10] 0).length = (crlfed x).cps.size by simp [crlfed], e]; omega
  · rw [ey]
    have := h h' v tk (F.grownK k) (N.grown k)
    rw [← e] at this
    exact this
end
end
section
theorem ksetP28_14 : True := by
  k_with_none
  k_with "mine enter" => (refine' code_defP ?mkb ?mk1 ?mk2 ?mk3 ?mk4 ?mk5 ?mkA ?mkF ?mkK ?mk6 ?mk7 ?mk8 ?mk9 ?mkB ?_ ?mc2 ?mc3 ?mc4 ?mc5; (case mkb => assumption); (case mkA => exact rfl); (case mkF => exact rfl); (case mkK => assumption); (case mk1 => k_asm); (case mk2 => k_asm); (case mk3 => k_asm); (case mk4 => k_asm); (case mk5 => k_asm); (case mk6 => k_is); (case mk7 => k_is); (case mk8 => ktr_room); (case mk9 => exact BindsTo.of_eq rfl); (case mc5 => decide); (case mkB => exact locs rfl); (case mc2 => exact rfl); (case mc3 => exact rfl); (case mc4 => exact rfl); k_whole; intro g'w L'w h'w hH'w FG'w F'w N'w B'w X'w T'w; (try simp only [List.reverse_cons, List.reverse_nil, List.nil_append, List.cons_append, List.length_cons, List.length_nil]); (try dsimp only); (try k_lift B'w); (try k_fold); refine cut ?_; intro qq'w hq'w; refine letA ?_; intro A1'w)
  k_with "mine start" => (w_top off; dsimp only [Ctr]; k_fill; intros; refine wpAny_call ?_; k_dflt (k_extra "mine enter"))
  k_with "mine keeps" => (refine' keeps_of ?mq1 ?mq2 ?mq3 ?mq4 ?mq5; (case mq1 => with_reducible assumption); (case mq2 => with_reducible assumption); (case mq3 => with_reducible assumption); (case mq4 => with_reducible assumption); (case mq5 => lcg_sub))
  k_with "mine off" => (first | exact List.forall_mem_nil _ | (refine List.forall_mem_cons.mpr ⟨?ma, ?mb⟩; (case ma => k_ne); (case mb => k_extra "mine off")))
  k_with "mine fresh" => (refine' fresh_of ?mq1 ?mq2 ?mq3 ?mq4; (case mq1 => with_reducible assumption); (case mq2 => with_reducible assumption); (case mq3 => k_mem); (case mq4 => k_extra "mine off"))
  k_with "mine ret" => ((rename RetOf _ _ _ => hR'w); refine' RetOf.at hR'w ?mkk ?_; (case mkk => k_extra "mine keeps"))
  k_with "mine tup3" => (k_extra "mine ret"; refine' ⟨_, _, _, _, rfl, ?mkf, ?mkg, ?_⟩; (case mkg => exact News.get (by with_reducible assumption) (by k_mem)); (case mkf => k_extra "mine fresh"))
  k_with "mine:execs cons" => (k_here; first | (refine' execs_cutL ?mhs ?mF ?mN ?_; (case mhs => first | (dsimp only; exact rfl) | dsimp only | exact rfl); (case mF => k_asm); (case mN => k_asm); intro m1'w n1'w F1'w N1'w q'w hq'w; try dsimp only at F1'w N1'w) | (refine' execs_cut ?_; intro q'w hq'w))
  k_with "mine:execs cons" => (k_here; (with_reducible show wpAny _ _ _ _ _ (Shared.mk _ _ _ (_ + _) _)); refine' gen_toks ?mhX ?_; (case mhX => omega); intro tk'w htk'w)
  k_with "mine:execs nil" => (k_here; (with_reducible show wpAny _ _ _ _ _ (Shared.mk _ _ _ (_ + _) _)); refine' gen_toks ?mhX ?_; (case mhX => omega); intro tk'w htk'w)
  k_with "mine units" => ((have hcL9 := cLine_is); (try simp +zetaDelta only [units_in1, units_deeper, Around.mark_units, units_caller]); (try dsimp +zetaDelta only [ktrTop]); omega)
  k_with "mine step" => (first | (k_unfold; (try dsimp only)) | (k_end; wrow_close) | walk1 | (dsimp only; walk1) | (leave1; walk_say "STEP leave1"; try dsimp only))
  k_with "mine ne" => (first | with_reducible assumption | (refine Ne.symm ?_; with_reducible assumption) | (refine Nat.ne_of_lt ?_; with_reducible assumption) | (refine Nat.ne_of_gt ?_; with_reducible assumption) | (refine neN ?_; (try dsimp only); (try simp only [ne_eq]); omega))
  k_with "mine:Held" => (refine Held.go (by with_reducible assumption) ?_; try dsimp only)
  k_with "mine offs" => (k_dflt ((rename LCg.Off1 _ _ => hq'w); refine Off1c.of hq'w ?_; clear hq'w; (repeat intro o2'w); refine ⟨?_⟩))
  k_with "mine:FinE" => ((unfold LCg.FinE); intro D'w h'w tk'w F'w N'w o1'w; (try simp only [List.nil_append, List.cons_append] at N'w o1'w); k_extra "mine offs"; (try dsimp only))
  k_with "mine:CompRest" => (with_unfolding_all first
    | (refine LCg.CompRest.succ ?_; intro v'w I'w oI'w C'w oC'w D'w m'w h'w tk'w E'w hv'w hC'w hx'w F'w N'w off'w ne'w; (first | lcg_open hv'w | (obtain ⟨t9'w, hv9'w⟩ := hv'w; subst hv9'w)); refine cut ?_; intro q4'w hq4'w)
    | refine LCg.CompRest.zero ?_)
  k_with "mine:CompRestT" => (with_unfolding_all first
    | (refine LCt.CompRestT.succ ?_; intro v'w I'w oI'w C'w oC'w D'w m'w h'w tk'w E'w hv'w hC'w hx'w F'w N'w off'w ne'w; (first | lcg_open hv'w | (obtain ⟨t9'w, hv9'w⟩ := hv'w; subst hv9'w)))
    | refine LCt.CompRestT.zero ?_)
  k_with "mine:CompEnd" => (refine LCg.CompEnd.intro (by k_asm) (by k_asm) _ (fun _ hp => hp) (by with_reducible assumption) (by lcg_src) ?_)
  k_with "mine arith" => (first | exact Nat.succ_pos _ | with_reducible assumption | (with_reducible exact ar_r0 (by assumption)) | (with_reducible exact ar_r2 (by assumption) (by decide)) | (with_reducible exact ar_r1 (by assumption) (by decide)) | (with_reducible exact ar_absC (by assumption) (by decide)) | (with_reducible exact ar_abs (by assumption) (by assumption) (by decide)) | (with_reducible exact ar_absN (by assumption) (by decide)) | (with_reducible exact ar_absM) | (with_reducible exact ar_absL (by assumption) (by decide)) | (with_reducible exact ar_cle (by assumption) (by decide)) | (with_reducible exact Int.natCast_nonneg _) | (with_reducible exact ar_min0) | (with_reducible exact ar_min1 (by decide)) | (with_reducible exact ar_sc (by assumption) (by decide)) | (with_reducible exact Nat.le_trans (by assumption) (by decide)) | decide)
  k_with "mine mem" => (first | exact memk 0 rfl | exact memk 1 rfl | exact memk 2 rfl | exact memk 3 rfl | exact memk 4 rfl | exact memk 5 rfl | exact memk 6 rfl | exact memk 7 rfl | exact memk 8 rfl | exact memk 9 rfl | exact memk 10 rfl | exact memk 11 rfl | exact memk 12 rfl | exact memk 13 rfl | exact memk 14 rfl | exact memk 15 rfl | exact memk 16 rfl | exact memk 17 rfl | exact memk 18 rfl | exact memk 19 rfl)
  k_with "mine same" => ((repeat (rename (¬ _) ∧ _ => hz'w; have hz1'w := And.left hz'w; have hz2'w := And.right hz'w; clear hz'w)); (repeat (first | with_reducible rfl | (refine (if_neg (by assumption)).trans ?_))))
  k_with "mine use" => ((case mk1 => k_asm); (case mk2 => k_asm); (case mk3 => k_asm); (case mk4 => k_asm); (case mk5 => k_asm); (case mk6 => exact rfl); (case mk7 => lcg_sub); (case mk8 => ktr_room); (case mk9 => units_room))
  k_with "mine:subscriptTail Name Constant ref int" => (k_here; (with_reducible show wpAny _ _ (subscriptTail _ _ (Value.ref _) (Value.int _ _)) _ _ _); kim_at)
  k_with "mine:subscriptTail Name Constant ref int" => (k_here; (with_reducible show wpAny _ _ (subscriptTail _ _ (Value.ref _) (Value.int _ _)) _ _ _); (with_unfolding_all refine' item_litK ?mk1 ?mk2 ?mk3 ?mk4 ?_ ?mk6; (case mk1 => is_list); (case mk2 => decide); (case mk3 => decide); (case mk4 => rfl); (case mk6 => with_unfolding_all rfl); k_whole))
  k_with "mine:binaryOp Div int int" => (k_here; (with_reducible refine' divI_r ?me ?mk1 ?mk2 ?mk3 ?_); (case me => first | assumption | exact rfl); (case mk1 => k_dflt rfl); (case mk2 => first | decide | omega); (case mk3 => omega); intro t'w)
  k_with "mine:binaryOp Mult float int" => (k_here; (with_reducible refine' mulFI_r ?me ?mk3 ?_); (case me => first | assumption | exact rfl); (case mk3 => omega); intro t'w)
  k_with "mine:binaryOp Mult int float" => (k_here; (with_reducible refine' mulIF_r ?me ?mk3 ?_); (case me => first | assumption | exact rfl); (case mk3 => omega); intro t'w)
  k_with "mine:call builtin:round" => (k_here; (with_reducible show wpAny _ _ (call (Value.builtin "round") [Value.float _ _]) _ _ _); (with_reducible refine' round_r ?mhf ?me ?mkh ?_); (case mhf => assumption); (case me => first | assumption | exact rfl); (case mkh => k_dflt rfl); intro t'w)
  k_with "mine:call builtin:max" => (k_here; first
    | ((with_reducible show wpAny _ _ (call (Value.builtin "max") [Value.ref _]) _ _ _); (with_reducible refine' max_l3 ?me ?mkh ?mk1 ?mk2 ?mk3 ?_); (case mk1 => k_asm); (case mk2 => k_asm); (case mk3 => k_dflt k_mem); (case me => assumption); (case mkh => k_dflt rfl); intro h'w tk'w t'w F'w N'w; (try k_sweep))
    | ((with_reducible show wpAny _ _ (call (Value.builtin "max") [Value.int _ _, Value.int _ _]) _ _ _); (with_reducible refine' max2_r ?me ?mkh ?mk1 ?mk2 ?_); (case mk1 => k_asm); (case mk2 => k_asm); (case me => first | assumption | exact rfl); (case mkh => k_dflt rfl); intro h'w tk'w t'w F'w N'w; (try k_sweep)))
  k_with "mine:call builtin:min" => (k_here; first
    | ((with_reducible show wpAny _ _ (call (Value.builtin "min") [Value.ref _]) _ _ _); (with_reducible refine' min_l3 ?me ?mkh ?mk1 ?mk2 ?mk3 ?_); (case mk1 => k_asm); (case mk2 => k_asm); (case mk3 => k_dflt k_mem); (case me => assumption); (case mkh => k_dflt rfl); intro h'w tk'w t'w F'w N'w; (try k_sweep))
    | ((with_reducible show wpAny _ _ (call (Value.builtin "min") [Value.int _ _, Value.int _ _]) _ _ _); (with_reducible refine' min2_r ?me ?mkh ?mk1 ?mk2 ?_); (case mk1 => k_asm); (case mk2 => k_asm); (case me => first | assumption | exact rfl); (case mkh => k_dflt rfl); intro h'w tk'w t'w F'w N'w; (try k_sweep)))
  k_with "mine:ite" => (k_here; first
    | (with_reducible refine ite_neg (by first | assumption | exact Bool.eq_false_iff.mp (by assumption) | (simp only [decide_true, decide_false, Bool.not_true, Bool.not_false, eq_self, Bool.false_eq_true, not_false_eq_true]; done) | ((try simp only [beq_iff_eq, bne_iff_ne, decide_eq_true_eq, ne_eq, Bool.not_eq_true', decide_eq_false_iff_not, Int.not_lt, Int.not_le]); omega)) ?_)
    | (with_reducible refine ite_pos (by first | assumption | (simp only [decide_true, decide_false, Bool.not_true, Bool.not_false, eq_self, Bool.false_eq_true, not_false_eq_true]; done) | ((try simp only [beq_iff_eq, bne_iff_ne, decide_eq_true_eq, ne_eq, Bool.not_eq_true', decide_eq_false_iff_not, Int.not_lt, Int.not_le]); omega)) ?_))
  k_with "mine:compareOp NotIn" => (k_here; (with_reducible show wpAny _ _ (compareOp CmpOp.NotIn (Value.int _ _) (Value.ref _)) _ _ _); (with_reducible refine' notIn_range ?mk1 ?mk2 ?mk3 ?_); (case mk1 => k_dflt assumption); (case mk2 => omega); (case mk3 => omega))
  k_with "mine:compareOp NotIn int ref" => (walk_at "compareOp NotIn")
  k_with "mine:binaryOp FloorDiv int int" => (k_here; (with_reducible refine' fdiv_r ?me ?mk2 ?mk3 ?_); (case me => first | assumption | exact rfl); (case mk2 => first | decide | omega); (case mk3 => first | decide | omega); intro t'w)
  k_with "mine:binaryOp Mod int int" => (k_here; (with_reducible refine' fmod_r ?me ?mk2 ?_); (case me => first | assumption | exact rfl); (case mk2 => first | decide | omega); intro t'w)
  k_with "mine enterC" => (refine' code_defPC ?mk1 ?mk2 ?mk3 ?mk4 ?mk5 ?mkA ?mkF ?mkK ?mk6 ?mk7 ?mk8 ?mk9 ?mkB ?mkD ?_ ?mc2 ?mc3 ?mc4; (case mkA => exact rfl); (case mkF => exact rfl); (case mkK => assumption); (case mk1 => k_asm); (case mk2 => k_asm); (case mk3 => k_asm); (case mk4 => k_asm); (case mk5 => k_asm); (case mk6 => k_is); (case mk7 => k_is); (case mk8 => ktr_room); (case mk9 => exact BindsTo.of_eq rfl); (case mkB => exact rfl); (case mkD => decide +kernel); (case mc2 => exact rfl); (case mc3 => exact rfl); (case mc4 => exact rfl); k_whole; intro g'w L'w h'w tk'w cells'w hH'w FG'w F'w N'w Y'w B'w X'w T'w l1'w; (try k_lt l1'w); k_cells Y'w; (try simp only [List.cons_append, List.nil_append] at N'w); (try dsimp only); (try k_lift B'w); (try k_fold); refine cut ?_; intro qq'w hq'w; refine letA ?_; intro A1'w)
  k_with "mine startC" => (dsimp only [Ctr]; k_fill; intros; refine wpAny_call ?_; k_dflt (k_extra "mine enterC"))
  k_with "mine:CTup" => (k_here; k_dflt (refine CTup.at (by rfl) (by k_asm) (by k_asm) (by k_mem) (by exact Nat.le_of_ble_eq_true rfl) ?_; intro g'w; lcg_lit))
  k_with "mine:CTupT" => (k_here; k_dflt (refine CTupT.at (by rfl) (by k_asm) (by k_asm) (by k_mem) (by exact Nat.le_of_ble_eq_true rfl) ?_; intro g'w; lct_lit))
  k_with "mine:pyIter ref" => (k_here; (with_reducible show wpAny _ _ (pyIter (Value.ref _)) (fun it s₂ => TurnsAt _ _ _ _ _ _ _ _ _ it s₂) _ _); ktu_seq)
  k_with "mine updF" => (first | (refine' UpdF.head ?ma; (case ma => k_extra "mine off")) | (refine' UpdF.tail ?ma ?mb; (case ma => k_ne); (case mb => k_extra "mine updF")))
  k_with "mine:storeName" => (k_here; k_dflt (first
    | (refine' storeX_L ?mF ?mN ?_ ?ma ?mb; (case ma => rfl); (case mb => rfl); (case mF => k_asm); (case mN => k_asm); k_whole; intro h'w F'w N'w; (try k_sweep))
    | (refine' storeX_C ?mF ?mN ?mc ?mU ?md ?_ ?ma ?mb; (case ma => rfl); (case mb => rfl); (case mF => k_asm); (case mN => k_asm); (case mc => rfl); (case mU => k_extra "mine updF"); (case md => k_asm); k_whole; intro h'w o'w F'w N'w d'w; (try dsimp only at N'w); (try k_sweep))))
  k_with "mine:CompSrc" => (k_here; k_dflt (refine LCg.CompSrc.ledger (by rfl) (by k_asm) (by k_asm) (by k_mem) (by exact Nat.le_of_ble_eq_true rfl) ?_; intro g'w; lcg_lit))
  trivial
theorem ksetP28_13 : True := by
  k_with "mine:getMethod ref" => (k_here; first
    | ((with_reducible show wpAny _ _ (getMethod (Value.ref 36) _ _) _ _ _); k_dflt (refine pat_method (C := 35) (by k_asm) (by k_asm) rfl ?_); (try dsimp only))
    | ((with_reducible show wpAny _ _ (getMethod (Value.ref 41) _ _) _ _ _); k_dflt (refine pat_method (C := 40) (by k_asm) (by k_asm) rfl ?_); (try dsimp only)))
  k_with "mine:call builtin:re.Pattern.sub" => (k_here; first
    | ((with_reducible show wpAny _ _ (call (Value.builtin _) [Value.ref 36, _, _]) _ _ _); k_dflt (refine sub1_r (by k_asm) (by k_asm) (by k_asm) (by assumption) (by assumption) (by assumption) ?_); intro h'w v'w tk'w F'w N'w)
    | ((with_reducible show wpAny _ _ (call (Value.builtin _) [Value.ref 41, _, _]) _ _ _); k_dflt (refine sub2_r (by k_asm) (by k_asm) (by k_asm) (by assumption) (by assumption) (by assumption) ?_); intro h'w v'w tk'w F'w N'w))
  trivial

theorem quote_c (w mean mg mb) (x y z : Str) (t : Tok) (hz : x.cps.size ≤ 1000) (e1 : crlfed x = y) (hy : y.cps.size ≤ 1000) (e2 : dotted y = z) (hz' : z.cps.size ≤ 1000) : Ctr w mean mg mb 48 [.str x t] [] 1 (PStr z) := by
  have hB : Bnd [(Str.ofString "data", .str x t)] := trivial
  k_extra "mine start"
  k_steps
  k_extra "mine ret"
  exact ⟨_, rfl⟩
end
section
open PySem.Float64
theorem V_surj : ∀ (k q : Nat), q ≤ 2 ^ 53 → ∃ t, V t = q * 2 ^ k
  | 0, q, h => ⟨0 * 2 ^ 52 + q, V_at h (.inr rfl)⟩
  | k + 1, q, h => by
    by_cases h2 : 2 ^ 52 ≤ q
    · exact ⟨(k + 1) * 2 ^ 52 + q, V_at h (.inl h2)⟩
    · obtain ⟨t, e⟩ := V_surj k (2 * q) (by omega)
      exact ⟨t, by rw [e, Nat.pow_succ]; ac_rfl⟩
/-- the float is finite -/
noncomputable def Fini (x : UInt64) : Prop := ∃ a m e, decode x = .fin a m e
theorem right_err {r : UInt64} {neg : Bool} {W D : Nat} (R : Right r neg W D) (hD : 0 < D) {g : Nat} (hg : g ≤ 1900) (hW : W < D * 2 ^ (g + 53)) :
    Fini r ∧ ∃ v : Nat, val r = sgn neg v ∧ W ≤ D * v + D * 2 ^ g ∧ D * v ≤ W + D * 2 ^ g := by
  obtain ⟨t, rfl, hle, hinf, hn⟩ := R
  have ht : t < infMag := by
    refine Nat.lt_of_le_of_ne hle fun e => ?_
    have h1 := hinf.mp e
    have h2 : 2 * W < D * 2 ^ (g + 54) := by
      rw [show g + 54 = g + 53 + 1 from rfl, Nat.pow_succ, ← Nat.mul_assoc]; omega
    have h3 : 2 ^ (g + 54) ≤ (2 ^ 54 - 1) * 2 ^ 2045 := by
      refine Nat.le_trans (Nat.pow_le_pow_right (by decide) (show g + 54 ≤ 2045 by omega)) ?_
      exact Nat.le_mul_of_pos_left _ (by decide)
    have h4 := Nat.mul_le_mul_left D h3
    exact absurd (Nat.lt_of_lt_of_le h2 (Nat.le_trans h4 h1)) (Nat.lt_irrefl _)
  obtain ⟨m, e, hd, hv⟩ := decode_pack neg ht
  refine ⟨⟨_, _, _, hd⟩, V t, val_pack neg ht, ?_⟩
  have hp : 0 < D * 2 ^ g := Nat.mul_pos hD (Nat.two_pow_pos _)
  have hq : W / (D * 2 ^ g) < 2 ^ 53 := by
    rw [Nat.div_lt_iff_lt_mul hp, Nat.mul_comm (2 ^ 53), Nat.mul_assoc, ← Nat.pow_add]; exact hW
  obtain ⟨t', ht'⟩ := V_surj g (W / (D * 2 ^ g)) (Nat.le_of_lt hq)
  have h1 := (hn ht t').1
  rw [ht', show D * (W / (D * 2 ^ g) * 2 ^ g) = D * 2 ^ g * (W / (D * 2 ^ g)) by ac_rfl] at h1
  have h2 := Nat.div_add_mod W (D * 2 ^ g)
  have h3 := Nat.mod_lt W hp
  generalize D * 2 ^ g * (W / (D * 2 ^ g)) = Z at *
  generalize W % (D * 2 ^ g) = Y at *
  generalize D * 2 ^ g = X at *
  generalize D * V t = U at *
  unfold dist at h1
  rw [Nat.sub_eq_zero_of_le (show Z ≤ W from h2 ▸ Nat.le_add_right Z Y), show W - Z = Y by rw [← h2, Nat.add_sub_cancel_left]] at h1
  have a1 := Nat.le_trans h1 (Nat.le_of_lt h3)
  exact ⟨Nat.sub_le_iff_le_add'.mp (Nat.le_trans (Nat.le_add_right _ _) a1), Nat.sub_le_iff_le_add'.mp (Nat.le_trans (Nat.le_add_left _ _) a1)⟩
theorem sgn_neg_natAbs (s : Int) : sgn (decide (s < 0)) s.natAbs = s := by
  unfold sgn
  by_cases h : s < 0
  · rw [decide_eq_true h, if_pos rfl]; omega
  · rw [decide_eq_false h, if_neg (by decide)]; omega
theorem fini_zero (b : Bool) : Fini (zero b) ∧ val (zero b) = 0 := by
  obtain ⟨m, e, hd, hv⟩ := decode_pack b (t := 0) (by decide)
  refine ⟨⟨_, _, _, hd⟩, ?_⟩
  have := val_pack b (t := 0) (by decide)
  rw [V_zero] at this
  unfold zero
  rw [this]
  cases b <;> rfl
/-- the sum, to within 2^g -/
theorem add_err {x y : UInt64} (hx : Fini x) (hy : Fini y) {g : Nat} (hg : g ≤ 1900) (hs : (val x + val y).natAbs < 2 ^ (g + 53)) :
    Fini (add x y) ∧ val (add x y) ≤ val x + val y + (2 ^ g : Nat) ∧ val x + val y ≤ val (add x y) + (2 ^ g : Nat) := by
  obtain ⟨a, m, e, hx⟩ := hx
  obtain ⟨b, k, f, hy⟩ := hy
  have h := add_right hx hy
  by_cases h0 : val x + val y = 0
  · rw [h.1 h0]
    have hz := fini_zero (a && b)
    refine ⟨hz.1, ?_⟩
    rw [hz.2, h0]
    generalize 2 ^ g = G
    omega
  · obtain ⟨h1, v, hv, h2, h3⟩ := right_err (h.2 h0) (by decide) hg (by rw [Nat.one_mul]; exact hs)
    refine ⟨h1, ?_⟩
    rw [hv]
    rw [Nat.one_mul, Nat.one_mul] at h2 h3
    generalize 2 ^ g = G at *
    generalize val x + val y = s at *
    unfold sgn
    by_cases hn : s < 0
    · rw [decide_eq_true hn, if_pos rfl]; omega
    · rw [decide_eq_false hn, if_neg (by decide)]; omega
theorem neg_fini {y : UInt64} (hy : Fini y) : Fini (neg y) ∧ val (neg y) = - val y := by
  obtain ⟨b, k, f, hy⟩ := hy
  exact ⟨⟨_, _, _, neg_decode hy⟩, neg_val hy⟩
theorem sub_err {x y : UInt64} (hx : Fini x) (hy : Fini y) {g : Nat} (hg : g ≤ 1900) (hs : (val x - val y).natAbs < 2 ^ (g + 53)) :
    Fini (sub x y) ∧ val (sub x y) ≤ val x - val y + (2 ^ g : Nat) ∧ val x - val y ≤ val (sub x y) + (2 ^ g : Nat) := by
  obtain ⟨n1, n2⟩ := neg_fini hy
  have := add_err hx n1 hg (by rw [n2]; exact hs)
  rw [n2, ← Int.sub_eq_add_neg] at this
  unfold Float64.sub
  exact this
theorem sgn_prod (a b : Bool) (m k : Nat) : sgn a m * sgn b k = sgn (a != b) (m * k) := by
  unfold sgn
  cases a <;> cases b <;> simp [Int.natCast_mul, Int.mul_neg, Int.neg_mul]
noncomputable def TT : Nat := 2 ^ 1074
noncomputable def JJ : Nat := 2 ^ 1026
theorem TT_pos : 0 < TT := Nat.two_pow_pos _
theorem JJ_pos : 0 < JJ := Nat.two_pow_pos _
theorem TT_JJ : TT = 281474976710656 * JJ := by unfold TT JJ; rw [show (281474976710656 : Nat) = 2 ^ 48 by decide, ← Nat.pow_add]
/-- the product, to within 2^g -/
theorem mul_err {x y : UInt64} (hx : Fini x) (hy : Fini y) {g : Nat} (hg : g ≤ 1900) (hs : (val x * val y).natAbs < TT * 2 ^ (g + 53)) :
    Fini (mul x y) ∧ (TT : Int) * val (mul x y) ≤ val x * val y + ((TT * 2 ^ g : Nat) : Int) ∧ val x * val y ≤ (TT : Int) * val (mul x y) + ((TT * 2 ^ g : Nat) : Int) := by
  obtain ⟨a, m, e, hx⟩ := hx
  obtain ⟨b, k, f, hy⟩ := hy
  have h := mul_right hx hy
  rw [Int.natAbs_mul] at hs
  obtain ⟨h1, v, hv, h2, h3⟩ := right_err (D := TT) h TT_pos hg hs
  refine ⟨h1, ?_⟩
  have hp : val x * val y = sgn (a != b) ((val x).natAbs * (val y).natAbs) := by
    rw [val_natAbs hx, val_natAbs hy, val_eq hx, val_eq hy]
    exact sgn_prod ..
  rw [hv, hp]
  have e : (TT : Int) * sgn (a != b) v = sgn (a != b) (TT * v) := by
    unfold sgn
    cases (a != b) <;> simp [Int.natCast_mul, Int.mul_neg]
  rw [e]
  generalize TT * 2 ^ g = G at *
  generalize TT * v = U at *
  generalize (val x).natAbs * (val y).natAbs = W at *
  unfold sgn
  cases (a != b)
  · rw [if_neg (by decide), if_neg (by decide)]; omega
  · rw [if_pos rfl, if_pos rfl]; omega
end
section

open PySem.Float64
/-- x is finite; its value lies between l and h, counted in 2^-48 / (16 * 10^20) -/
noncomputable def In (x : UInt64) (l h : Int) : Prop := Fini x ∧ l * JJ ≤ val x * 1600000000000000000000 ∧ val x * 1600000000000000000000 ≤ h * JJ
theorem J_pos : (0 : Int) < JJ := Int.ofNat_lt.mpr JJ_pos
theorem T_J : (TT : Int) = 281474976710656 * JJ := by have := TT_JJ; omega
theorem le_J {a b : Int} (h : a ≤ b) : a * JJ ≤ b * JJ := Int.mul_le_mul_of_nonneg_right h (Int.le_of_lt J_pos)
theorem pow_J : (2 : Nat) ^ (1026 + 53) = 9007199254740992 * JJ := by unfold JJ; rw [show (9007199254740992 : Nat) = 2 ^ 53 by decide, ← Nat.pow_add]
theorem In.mono {x : UInt64} {l h l' h' : Int} (X : In x l h) (a : l' ≤ l) (b : h ≤ h') : In x l' h' :=
  ⟨X.1, Int.le_trans (le_J a) X.2.1, Int.le_trans X.2.2 (le_J b)⟩
theorem In.add {x y : UInt64} {l h l' h' : Int} (X : In x l h) (Y : In y l' h') (b1 : -13510798882111488000000000000000000000 ≤ l + l') (b2 : h + h' ≤ 13510798882111488000000000000000000000) : In (add x y) (l + l' - 1600000000000000000000) (h + h' + 1600000000000000000000) := by
  obtain ⟨f, x1, x2⟩ := X
  obtain ⟨f', y1, y2⟩ := Y
  have c1 := le_J b1
  have c2 := le_J b2
  have hJ := J_pos
  rw [Int.add_mul] at c1 c2
  have hs : (val x + val y).natAbs < 2 ^ (1026 + 53) := by rw [pow_J]; omega
  obtain ⟨g, z1, z2⟩ := add_err f f' (g := 1026) (by decide) hs
  refine ⟨g, ?_, ?_⟩
  · rw [Int.sub_mul, Int.add_mul]; unfold JJ at *; omega
  · rw [Int.add_mul, Int.add_mul]; unfold JJ at *; omega
theorem In.neg {x : UInt64} {l h : Int} (X : In x l h) : In (neg x) (-h) (-l) := by
  obtain ⟨f, x1, x2⟩ := X
  obtain ⟨g, e⟩ := neg_fini f
  refine ⟨g, ?_, ?_⟩
  · rw [e, Int.neg_mul, Int.neg_mul]; omega
  · rw [e, Int.neg_mul, Int.neg_mul]; omega
theorem In.sub {x y : UInt64} {l h l' h' : Int} (X : In x l h) (Y : In y l' h') (b1 : -13510798882111488000000000000000000000 ≤ l - h') (b2 : h - l' ≤ 13510798882111488000000000000000000000) : In (sub x y) (l - h' - 1600000000000000000000) (h - l' + 1600000000000000000000) := by
  have := In.add X Y.neg (by omega) (by omega)
  unfold Float64.sub
  rwa [← Int.sub_eq_add_neg, ← Int.sub_eq_add_neg] at this
/-- c lies within 2^-53 of P / 10^16 -/
noncomputable def Near (c : UInt64) (P : Int) : Prop := Fini c ∧ 0 ≤ val c ∧ (val c * 10000000000000000 - P * TT) * 32 ≤ 10000000000000000 * JJ ∧ (P * TT - val c * 10000000000000000) * 32 ≤ 10000000000000000 * JJ

theorem abs_mul {D l d b : Int} (h1 : -d ≤ D) (h2 : D ≤ d) (h3 : -b ≤ l) (h4 : l ≤ b) : -(d * b) ≤ D * l ∧ D * l ≤ d * b := by
  have hd : 0 ≤ d := by omega
  rcases Int.le_total 0 l with hl | hl
  · have a1 := Int.mul_le_mul_of_nonneg_right h2 hl
    have a2 := Int.mul_le_mul_of_nonneg_right h1 hl
    have a3 := Int.mul_le_mul_of_nonneg_left h4 hd
    rw [Int.neg_mul] at a2
    exact ⟨by omega, by omega⟩
  · have a1 := Int.mul_le_mul_of_nonpos_right h2 hl
    have a2 := Int.mul_le_mul_of_nonpos_right h1 hl
    have a3 := Int.mul_le_mul_of_nonneg_left h3 hd
    rw [Int.neg_mul] at a2
    rw [Int.mul_neg] at a3
    exact ⟨by omega, by omega⟩
/-- an upper end of the product -/
theorem mul_up {C v P h J T : Int} (hJ : 0 < J) (hT : T = 281474976710656 * J) (c0 : 0 ≤ C) (c1 : (C * 10000000000000000 - P * T) * 32 ≤ 10000000000000000 * J) (c2 : (P * T - C * 10000000000000000) * 32 ≤ 10000000000000000 * J)
    (x2 : v * 1600000000000000000000 ≤ h * J) (b1 : -6755399441055744000000000000000000000 ≤ h) (b2 : h ≤ 6755399441055744000000000000000000000) : C * v * 1600000000000000000000 * 10000000000000000 ≤ (P * h + 16000000000000000000000000000000000000) * (T * J) := by
  have k1 := Int.mul_le_mul_of_nonneg_left x2 c0
  have k2 := (abs_mul (D := (C * 10000000000000000 - P * T) * 32) (d := 10000000000000000 * J) (by omega) (by omega) b1 b2).2
  have k3 := Int.mul_le_mul_of_nonneg_right k2 (Int.le_of_lt hJ)
  have e1 : C * (v * 1600000000000000000000) = C * v * 1600000000000000000000 := by ac_rfl
  rw [e1] at k1
  have e2 : (C * 10000000000000000 - P * T) * 32 * h * J = 32 * (10000000000000000 * (C * (h * J))) - 32 * (P * h * (T * J)) := by
    rw [Int.sub_mul, Int.sub_mul, Int.sub_mul]
    congr 1
    · ac_rfl
    · ac_rfl
  have e3 : 10000000000000000 * J * 6755399441055744000000000000000000000 * J = 240000000000000000000000000000000000000 * (T * J) := by
    rw [hT]
    have : 10000000000000000 * J * 6755399441055744000000000000000000000 * J = (10000000000000000 * 6755399441055744000000000000000000000) * (J * J) := by ac_rfl
    rw [this]
    have : 240000000000000000000000000000000000000 * (281474976710656 * J * J) = (240000000000000000000000000000000000000 * 281474976710656) * (J * J) := by ac_rfl
    rw [this]
    rfl
  rw [e2, e3] at k3
  rw [Int.add_mul]
  have hp : 0 < T * J := Int.mul_pos (by omega) hJ
  generalize P * h * (T * J) = X1 at *
  generalize C * (h * J) = X2 at *
  generalize C * v * 1600000000000000000000 = X3 at *
  generalize T * J = X4 at *
  omega
theorem In.mul {c x : UInt64} {P l h l' h' : Int} (C : Near c P) (X : In x l h) (b1 : -6755399441055744000000000000000000000 ≤ l) (b2 : h ≤ 6755399441055744000000000000000000000)
    (a1 : l' * 10000000000000000 + 32000000000000000000000000000000000000 ≤ P * l) (a2 : P * h + 32000000000000000000000000000000000000 ≤ h' * 10000000000000000) (bl : -13510798882111488000000000000000000000 ≤ l') (bh : h' ≤ 13510798882111488000000000000000000000) : In (Float64.mul c x) l' h' := by
  obtain ⟨fc, c0, c1, c2⟩ := C
  obtain ⟨f, x1, x2⟩ := X
  have hJ := J_pos
  have hT := T_J
  have lh : l ≤ h := by
    by_cases q : h < l
    · have := Int.mul_lt_mul_of_pos_right q hJ; omega
    · omega
  have u1 := mul_up hJ hT c0 c1 c2 x2 (by omega) b2
  have u2 := mul_up (v := -val x) (h := -l) hJ hT c0 c1 c2 (by rw [Int.neg_mul, Int.neg_mul]; omega) (by omega) (by omega)
  rw [Int.mul_neg, Int.neg_mul, Int.neg_mul, Int.mul_neg] at u2
  have hp : 0 < (TT : Int) * JJ := Int.mul_pos (by omega) hJ
  have v1 : (P * h + 16000000000000000000000000000000000000) * ((TT : Int) * JJ) ≤ (h' * 10000000000000000 - 16000000000000000000000000000000000000) * ((TT : Int) * JJ) := Int.mul_le_mul_of_nonneg_right (by omega) (Int.le_of_lt hp)
  have v2 : (-(P * l) + 16000000000000000000000000000000000000) * ((TT : Int) * JJ) ≤ (-(l' * 10000000000000000) - 16000000000000000000000000000000000000) * ((TT : Int) * JJ) := Int.mul_le_mul_of_nonneg_right (by omega) (Int.le_of_lt hp)
  have w1 : (h' * 10000000000000000 - 16000000000000000000000000000000000000) * ((TT : Int) * JJ) ≤ 135107988821114864000000000000000000000000000000000000 * ((TT : Int) * JJ) := Int.mul_le_mul_of_nonneg_right (by omega) (Int.le_of_lt hp)
  have w2 : (-(l' * 10000000000000000) - 16000000000000000000000000000000000000) * ((TT : Int) * JJ) ≤ 135107988821114864000000000000000000000000000000000000 * ((TT : Int) * JJ) := Int.mul_le_mul_of_nonneg_right (by omega) (Int.le_of_lt hp)
  have hs : (val c * val x).natAbs < TT * 2 ^ (1026 + 53) := by
    rw [pow_J, show TT * (9007199254740992 * JJ) = 9007199254740992 * (TT * JJ) by ac_rfl]
    have e : (((TT * JJ : Nat)) : Int) = (TT : Int) * JJ := Int.natCast_mul ..
    generalize TT * JJ = N at *
    rw [← e] at u1 u2 v1 v2 w1 w2
    generalize val c * val x = Z at *
    generalize (P * h + 16000000000000000000000000000000000000) * (N : Int) = q1 at *
    generalize (-(P * l) + 16000000000000000000000000000000000000) * (N : Int) = q2 at *
    generalize (h' * 10000000000000000 - 16000000000000000000000000000000000000) * (N : Int) = q3 at *
    generalize (-(l' * 10000000000000000) - 16000000000000000000000000000000000000) * (N : Int) = q4 at *
    omega
  obtain ⟨g, z1, z2⟩ := mul_err fc f (g := 1026) (by decide) hs
  have eG : ((TT * 2 ^ 1026 : Nat) : Int) = (TT : Int) * JJ := by unfold JJ; exact Int.natCast_mul ..
  rw [eG] at z1 z2
  have hTp : (0 : Int) < 10000000000000000 * TT := by omega
  refine ⟨g, ?_, ?_⟩
  · refine Int.le_of_mul_le_mul_left ?_ hTp
    have e1 : 10000000000000000 * (TT : Int) * (l' * JJ) = (l' * 10000000000000000) * ((TT : Int) * JJ) := by ac_rfl
    have e2 : 10000000000000000 * (TT : Int) * (val (Float64.mul c x) * 1600000000000000000000) = 16000000000000000000000000000000000000 * ((TT : Int) * val (Float64.mul c x)) := by
      have : 10000000000000000 * (TT : Int) * (val (Float64.mul c x) * 1600000000000000000000) = (10000000000000000 * 1600000000000000000000) * ((TT : Int) * val (Float64.mul c x)) := by ac_rfl
      rw [this]; rfl
    rw [e1, e2]
    rw [Int.sub_mul, Int.neg_mul] at v2
    generalize (TT : Int) * val (Float64.mul c x) = M at *
    generalize (TT : Int) * JJ = K at *
    generalize val c * val x = Z at *
    generalize (-(P * l) + 16000000000000000000000000000000000000) * K = q1 at *
    generalize (l' * 10000000000000000) * K = q2 at *
    omega
  · refine Int.le_of_mul_le_mul_left ?_ hTp
    have e1 : 10000000000000000 * (TT : Int) * (h' * JJ) = (h' * 10000000000000000) * ((TT : Int) * JJ) := by ac_rfl
    have e2 : 10000000000000000 * (TT : Int) * (val (Float64.mul c x) * 1600000000000000000000) = 16000000000000000000000000000000000000 * ((TT : Int) * val (Float64.mul c x)) := by
      have : 10000000000000000 * (TT : Int) * (val (Float64.mul c x) * 1600000000000000000000) = (10000000000000000 * 1600000000000000000000) * ((TT : Int) * val (Float64.mul c x)) := by ac_rfl
      rw [this]; rfl
    rw [e1, e2]
    rw [Int.sub_mul] at v1
    generalize (TT : Int) * val (Float64.mul c x) = M at *
    generalize (TT : Int) * JJ = K at *
    generalize val c * val x = Z at *
    generalize (P * h + 16000000000000000000000000000000000000) * K = q1 at *
    generalize (h' * 10000000000000000) * K = q2 at *
    omega
end
section
open PySem.Float64
noncomputable def Box (a b c m : Int) : Prop := (0 ≤ a ∧ a ≤ 16) ∧ (0 ≤ b ∧ b ≤ 16) ∧ (0 ≤ c ∧ c ≤ 16) ∧ (-16 ≤ m ∧ m ≤ 16)
noncomputable def L4 (α β γ δ a b c m : Int) : Int := α * a + β * b + γ * c + δ * m
noncomputable def S4 (α β γ δ : Int) : Int := 16 * ((α.natAbs : Int) + β.natAbs + γ.natAbs + δ.natAbs)
theorem term_le {α a : Int} (h0 : -16 ≤ a) (h1 : a ≤ 16) : α * a ≤ 16 * (α.natAbs : Int) ∧ -(16 * (α.natAbs : Int)) ≤ α * a := by
  rcases Int.le_total 0 α with h | h
  · have e : (α.natAbs : Int) = α := Int.natAbs_of_nonneg h
    rw [e]
    have q1 := Int.mul_le_mul_of_nonneg_left h1 h
    have q2 := Int.mul_le_mul_of_nonneg_left h0 h
    omega
  · have e : (α.natAbs : Int) = -α := Int.ofNat_natAbs_of_nonpos h
    rw [e]
    have q1 := Int.mul_le_mul_of_nonneg_left h1 (show 0 ≤ -α by omega)
    have q2 := Int.mul_le_mul_of_nonneg_left h0 (show 0 ≤ -α by omega)
    simp only [Int.neg_mul] at q1 q2
    omega
theorem L4_le {α β γ δ a b c m : Int} (H : Box a b c m) : L4 α β γ δ a b c m ≤ S4 α β γ δ ∧ -S4 α β γ δ ≤ L4 α β γ δ a b c m := by
  obtain ⟨⟨a0, a1⟩, ⟨b0, b1⟩, ⟨c0, c1⟩, ⟨m0, m1⟩⟩ := H
  have q1 := term_le (α := α) (show -16 ≤ a by omega) a1
  have q2 := term_le (α := β) (show -16 ≤ b by omega) b1
  have q3 := term_le (α := γ) (show -16 ≤ c by omega) c1
  have q4 := term_le (α := δ) m0 m1
  unfold L4 S4
  omega
/-- within e of a linear form -/
noncomputable def Lin (x : UInt64) (α β γ δ e a b c m : Int) : Prop := In x (L4 α β γ δ a b c m - e) (L4 α β γ δ a b c m + e)
section
variable {x y : UInt64} {α β γ δ e α' β' γ' δ' e' a b c m : Int}
theorem L4_add : L4 α β γ δ a b c m + L4 α' β' γ' δ' a b c m = L4 (α + α') (β + β') (γ + γ') (δ + δ') a b c m := by
  unfold L4; simp only [Int.add_mul]; omega
theorem L4_sub : L4 α β γ δ a b c m - L4 α' β' γ' δ' a b c m = L4 (α - α') (β - β') (γ - γ') (δ - δ') a b c m := by
  unfold L4; simp only [Int.sub_mul]; omega
theorem Lin.add (α'' β'' γ'' δ'' e'' : Int) (H : Box a b c m) (X : Lin x α β γ δ e a b c m) (Y : Lin y α' β' γ' δ' e' a b c m)
    (k : decide (α'' = α + α' ∧ β'' = β + β' ∧ γ'' = γ + γ' ∧ δ'' = δ + δ' ∧ e'' = e + e' + 1600000000000000000000 ∧ S4 α'' β'' γ'' δ'' + e + e' ≤ 13510798882111488000000000000000000000) = true) : Lin (Float64.add x y) α'' β'' γ'' δ'' e'' a b c m := by
  obtain ⟨rfl, rfl, rfl, rfl, rfl, k6⟩ := of_decide_eq_true k
  have hl := L4_le (α := α + α') (β := β + β') (γ := γ + γ') (δ := δ + δ') H
  have he := L4_add (α := α) (β := β) (γ := γ) (δ := δ) (α' := α') (β' := β') (γ' := γ') (δ' := δ') (a := a) (b := b) (c := c) (m := m)
  unfold Lin at X Y ⊢
  generalize L4 (α + α') (β + β') (γ + γ') (δ + δ') a b c m = L at *
  generalize S4 (α + α') (β + β') (γ + γ') (δ + δ') = S at *
  generalize L4 α β γ δ a b c m = L1 at *
  generalize L4 α' β' γ' δ' a b c m = L2 at *
  exact In.mono (In.add X Y (by omega) (by omega)) (by omega) (by omega)
theorem Lin.sub (α'' β'' γ'' δ'' e'' : Int) (H : Box a b c m) (X : Lin x α β γ δ e a b c m) (Y : Lin y α' β' γ' δ' e' a b c m)
    (k : decide (α'' = α - α' ∧ β'' = β - β' ∧ γ'' = γ - γ' ∧ δ'' = δ - δ' ∧ e'' = e + e' + 1600000000000000000000 ∧ S4 α'' β'' γ'' δ'' + e + e' ≤ 13510798882111488000000000000000000000) = true) : Lin (Float64.sub x y) α'' β'' γ'' δ'' e'' a b c m := by
  obtain ⟨rfl, rfl, rfl, rfl, rfl, k6⟩ := of_decide_eq_true k
  have hl := L4_le (α := α - α') (β := β - β') (γ := γ - γ') (δ := δ - δ') H
  have he := L4_sub (α := α) (β := β) (γ := γ) (δ := δ) (α' := α') (β' := β') (γ' := γ') (δ' := δ') (a := a) (b := b) (c := c) (m := m)
  unfold Lin at X Y ⊢
  generalize L4 (α - α') (β - β') (γ - γ') (δ - δ') a b c m = L at *
  generalize S4 (α - α') (β - β') (γ - γ') (δ - δ') = S at *
  generalize L4 α β γ δ a b c m = L1 at *
  generalize L4 α' β' γ' δ' a b c m = L2 at *
  exact In.mono (In.sub X Y (by omega) (by omega)) (by omega) (by omega)
theorem Lin.mul {c0 : UInt64} {P : Int} (α' β' γ' δ' e' : Int) (C : Near c0 P) (H : Box a b c m) (X : Lin x α β γ δ e a b c m)
    (k : decide (α' * 10000000000000000 = P * α ∧ β' * 10000000000000000 = P * β ∧ γ' * 10000000000000000 = P * γ ∧ δ' * 10000000000000000 = P * δ ∧ P * e + 32000000000000000000000000000000000000 ≤ e' * 10000000000000000 ∧
      S4 α β γ δ + e ≤ 6755399441055744000000000000000000000 ∧ S4 α' β' γ' δ' + e' ≤ 13510798882111488000000000000000000000) = true) : Lin (Float64.mul c0 x) α' β' γ' δ' e' a b c m := by
  obtain ⟨ka, kb, kc, kd, ke, k1, k2⟩ := of_decide_eq_true k
  have hl := L4_le (α := α) (β := β) (γ := γ) (δ := δ) H
  have hl' := L4_le (α := α') (β := β') (γ := γ') (δ := δ') H
  have go : ∀ {s t v : Int}, s * 10000000000000000 = P * t → s * v * 10000000000000000 = P * (t * v) := fun {s t v} q => by rw [Int.mul_right_comm, q, Int.mul_assoc]
  have he : L4 α' β' γ' δ' a b c m * 10000000000000000 = P * L4 α β γ δ a b c m := by
    unfold L4
    rw [Int.add_mul, Int.add_mul, Int.add_mul, Int.mul_add, Int.mul_add, Int.mul_add, go ka, go kb, go kc, go kd]
  unfold Lin at X ⊢
  generalize L4 α' β' γ' δ' a b c m = L' at *
  generalize S4 α' β' γ' δ' = S' at *
  generalize L4 α β γ δ a b c m = L at *
  generalize S4 α β γ δ = S at *
  have e1 : P * (L - e) = P * L - P * e := Int.mul_sub ..
  have e2 : P * (L + e) = P * L + P * e := Int.mul_add ..
  generalize P * L = PL at *
  generalize P * e = Pe at *
  exact In.mul C X (by omega) (by omega) (by omega) (by omega) (by omega) (by omega)
theorem Lin.mono (α' β' γ' δ' e' : Int) (H : Box a b c m) (X : Lin x α β γ δ e a b c m) (k : decide (S4 (α - α') (β - β') (γ - γ') (δ - δ') + e ≤ e') = true) : Lin x α' β' γ' δ' e' a b c m := by
  have k := of_decide_eq_true k
  have hl := L4_le (α := α - α') (β := β - β') (γ := γ - γ') (δ := δ - δ') H
  rw [← L4_sub] at hl
  unfold Lin at X ⊢
  generalize L4 α' β' γ' δ' a b c m = L' at *
  generalize L4 α β γ δ a b c m = L at *
  generalize S4 (α - α') (β - β') (γ - γ') (δ - δ') = S at *
  exact In.mono X (by omega) (by omega)
theorem Lin.of3 (X : In x ((α * a + β * b + γ * c) - e) ((α * a + β * b + γ * c) + e)) : Lin x α β γ 0 e a b c m := by
  unfold Lin L4
  rw [Int.zero_mul, Int.add_zero]
  exact X
theorem Lin.to3 (X : Lin x α β γ 0 e a b c m) : In x ((α * a + β * b + γ * c) - e) ((α * a + β * b + γ * c) + e) := by
  unfold Lin L4 at X
  rw [Int.zero_mul, Int.add_zero] at X
  exact X
theorem Lin.of_a {K : Int} (X : In x (a * K) (a * K)) : Lin x K 0 0 0 0 a b c m := by
  unfold Lin L4
  simp only [Int.zero_mul, Int.add_zero, Int.zero_add, Int.sub_zero]
  rw [Int.mul_comm]
  exact X
theorem Lin.of_b {K : Int} (X : In x (b * K) (b * K)) : Lin x 0 K 0 0 0 a b c m := by
  unfold Lin L4
  simp only [Int.zero_mul, Int.add_zero, Int.zero_add, Int.sub_zero]
  rw [Int.mul_comm]
  exact X
theorem Lin.of_c {K : Int} (X : In x (c * K) (c * K)) : Lin x 0 0 K 0 0 a b c m := by
  unfold Lin L4
  simp only [Int.zero_mul, Int.add_zero, Int.zero_add, Int.sub_zero]
  rw [Int.mul_comm]
  exact X
theorem Lin.of_m {K : Int} (X : In x (m * K) (m * K)) : Lin x 0 0 0 K 0 a b c m := by
  unfold Lin L4
  simp only [Int.zero_mul, Int.add_zero, Int.zero_add, Int.sub_zero]
  rw [Int.mul_comm]
  exact X
end
end
section

open PySem.Float64
theorem near_mid {a n b d : Nat} (hn : n - a + (a - n) ≤ n - b + (b - n)) (t1 : 2 * n < 2 * b + d) (t2 : 2 * b < 2 * n + d) : 2 * a < 2 * b + 2 * d ∧ 2 * b < 2 * a + 2 * d := by
  have e : 2 * (n - b + (b - n)) < d := by omega
  have e1 : a ≤ n + (a - n) := by omega
  have e2 : n ≤ a + (n - a) := by omega
  generalize n - a = u at *
  generalize a - n = v at *
  generalize n - b + (b - n) = z at *
  constructor <;> omega
/-- the nearest whole number -/
theorem nearest_is {x : UInt64} {j : Int} (f : Fini x) (h1 : 2 * val x < 2 * (j * TT) + TT) (h2 : 2 * (j * TT) < 2 * val x + TT) : toInt nearestOf x = j := by
  obtain ⟨a, m, e, hx⟩ := f
  have he := decode_ge hx
  unfold toInt
  rw [hx]
  show nearestOf a m e = j
  unfold nearestOf
  have hd := shift_pos m 1 e (by decide)
  have hs := shift_one m e 1074 (by omega)
  have hv := val_natAbs hx
  have hve := val_eq hx
  have e0 : (e + ((1074 : Nat) : Int)).toNat = (e + 1074).toNat := rfl
  rw [e0] at hs
  rw [← hv] at hs
  have hT : (2 : Nat) ^ 1074 = TT := rfl
  rw [hT] at hs
  have hTp : (0 : Int) < TT := Int.ofNat_lt.mpr TT_pos
  have hn := halfEven_nearest (shift m 1 e).1 (shift m 1 e).2 hd j.natAbs
  show sgn a (halfEven (shift m 1 e).1 (shift m 1 e).2) = j
  generalize halfEven (shift m 1 e).1 (shift m 1 e).2 = q at *
  generalize (shift m 1 e).1 = n at *
  generalize (shift m 1 e).2 = d at *
  -- the sign
  have hsg : val x = sgn a (val x).natAbs := by rw [hve, sgn_natAbs]
  have hj : j = sgn a j.natAbs := by
    unfold sgn at hsg ⊢
    cases a
    · rw [if_neg (by decide)] at hsg ⊢
      by_cases q : j < 0
      · have : j * TT ≤ (-1) * TT := Int.mul_le_mul_of_nonneg_right (by omega) (Int.le_of_lt hTp)
        omega
      · omega
    · rw [if_pos rfl] at hsg ⊢
      by_cases q : 0 < j
      · have : 1 * (TT : Int) ≤ j * TT := Int.mul_le_mul_of_nonneg_right (by omega) (Int.le_of_lt hTp)
        omega
      · omega
  have key : q = j.natAbs := by
    have d1 : 2 * (val x).natAbs < 2 * (j.natAbs * TT) + TT ∧ 2 * (j.natAbs * TT) < 2 * (val x).natAbs + TT := by
      have ej : (((j.natAbs * TT : Nat)) : Int) = (j.natAbs : Int) * TT := Int.natCast_mul ..
      unfold sgn at hsg hj
      cases a
      · rw [if_neg (by decide)] at hsg hj
        rw [hj] at h1 h2
        rw [← ej] at h1 h2
        omega
      · rw [if_pos rfl] at hsg hj
        rw [hj, Int.neg_mul] at h1 h2
        rw [← ej] at h1 h2
        omega
    -- scaled by d
    have s1 : d * (2 * (val x).natAbs) < d * (2 * (j.natAbs * TT) + TT) := Nat.mul_lt_mul_of_pos_left d1.1 hd
    have s2 : d * (2 * (j.natAbs * TT)) < d * (2 * (val x).natAbs + TT) := Nat.mul_lt_mul_of_pos_left d1.2 hd
    have t1 : 2 * n < 2 * (d * j.natAbs) + d := by
      refine Nat.lt_of_mul_lt_mul_right (a := TT) ?_
      have a1 : 2 * n * TT = d * (2 * (val x).natAbs) := by rw [Nat.mul_assoc, hs]; ac_rfl
      have a2 : (2 * (d * j.natAbs) + d) * TT = d * (2 * (j.natAbs * TT) + TT) := by rw [Nat.add_mul, Nat.mul_add]; ac_rfl
      rw [a1, a2]; exact s1
    have t2 : 2 * (d * j.natAbs) < 2 * n + d := by
      refine Nat.lt_of_mul_lt_mul_right (a := TT) ?_
      have a1 : (2 * n + d) * TT = d * (2 * (val x).natAbs + TT) := by rw [Nat.add_mul, Nat.mul_add, Nat.mul_assoc, hs]; ac_rfl
      have a2 : 2 * (d * j.natAbs) * TT = d * (2 * (j.natAbs * TT)) := by ac_rfl
      rw [a1, a2]; exact s2
    unfold dist at hn
    have h3 := near_mid hn t1 t2
    have c1 : d * q < d * (j.natAbs + 1) := by rw [Nat.mul_add]; omega
    have c2 : d * j.natAbs < d * (q + 1) := by rw [Nat.mul_add]; omega
    have := Nat.lt_of_mul_lt_mul_left c1
    have := Nat.lt_of_mul_lt_mul_left c2
    omega
  rw [key]; exact hj.symm
noncomputable def finB (x : UInt64) : Bool := isFinite x
theorem fini_of {x : UInt64} (h : isFinite x = true) : Fini x := by
  unfold isFinite at h
  cases e : decode x with
  | nan => rw [e] at h; exact Bool.noConfusion h
  | inf a => rw [e] at h; exact Bool.noConfusion h
  | fin a m k => exact ⟨a, m, k, e⟩
theorem of_fini {x : UInt64} (h : Fini x) : isFinite x = true := by
  obtain ⟨a, m, e, h⟩ := h
  unfold isFinite; rw [h]
theorem mega_val : Fini (ofInt 1048576) ∧ val (ofInt 1048576) = 1048576 * TT := ⟨fini_of (by decide +kernel), by unfold TT; decide +kernel⟩
theorem near_val {x : UInt64} {i : Int} (f : Fini x) (b1 : -200000 ≤ i) (b2 : i ≤ 200000) (h1 : val x ≤ i * TT + 67108864 * JJ) (h2 : i * TT ≤ val x + 67108864 * JJ) : nearB x i = true := by
  obtain ⟨fm, vm⟩ := mega_val
  have hT := T_J
  have hJ := J_pos
  have hTp : (0 : Int) < TT := Int.ofNat_lt.mpr TT_pos
  have i1 : i * TT ≤ 200000 * TT := Int.mul_le_mul_of_nonneg_right b2 (Int.le_of_lt hTp)
  have i2 : -200000 * TT ≤ i * TT := Int.mul_le_mul_of_nonneg_right b1 (Int.le_of_lt hTp)
  have ep : val x * val (ofInt 1048576) = (TT : Int) * (1048576 * val x) := by rw [vm]; ac_rfl
  have hp : (2 : Nat) ^ (1059 + 53) = 77371252455336267181195264 * JJ := by unfold JJ; rw [show (77371252455336267181195264 : Nat) = 2 ^ 86 by decide, ← Nat.pow_add]
  have hp2 : (2 : Nat) ^ 1059 = 8589934592 * JJ := by unfold JJ; rw [show (8589934592 : Nat) = 2 ^ 33 by decide, ← Nat.pow_add]
  have hs : (val x * val (ofInt 1048576)).natAbs < TT * 2 ^ (1059 + 53) := by
    rw [ep, Int.natAbs_mul, Int.natAbs_natCast]
    refine Nat.mul_lt_mul_of_pos_left ?_ TT_pos
    rw [hp]
    generalize i * (TT : Int) = w at *
    omega
  obtain ⟨g, z1, z2⟩ := mul_err f fm (g := 1059) (by decide) hs
  rw [ep, Int.natCast_mul, ← Int.mul_add] at z1
  rw [ep, Int.natCast_mul, ← Int.mul_add] at z2
  have z1 := Int.le_of_mul_le_mul_left z1 hTp
  have z2 := Int.le_of_mul_le_mul_left z2 hTp
  rw [hp2] at z1 z2
  have ei : i * 1048576 * TT = 1048576 * (i * TT) := by ac_rfl
  unfold nearB
  rw [of_fini g, Bool.true_and, decide_eq_true_eq]
  refine nearest_is g ?_ ?_
  · rw [ei]; generalize i * (TT : Int) = w at *; omega
  · rw [ei]; generalize i * (TT : Int) = w at *; omega
theorem In.near {x : UInt64} {l h i : Int} (X : In x l h) (b1 : -200000 ≤ i) (b2 : i ≤ 200000) (h1 : i * 450359962737049600000000000000000000 - 107374182400000000000000000000 ≤ l) (h2 : h ≤ i * 450359962737049600000000000000000000 + 107374182400000000000000000000) : nearB x i = true := by
  obtain ⟨f, x1, x2⟩ := X
  have c1 := le_J h1
  have c2 := le_J h2
  have hT := T_J
  have e1 : i * (TT : Int) * 1600000000000000000000 = i * 450359962737049600000000000000000000 * JJ := by
    rw [hT]
    have : i * (281474976710656 * (JJ : Int)) * 1600000000000000000000 = i * (281474976710656 * 1600000000000000000000) * JJ := by ac_rfl
    rw [this]; rfl
  rw [Int.sub_mul] at c1
  rw [Int.add_mul] at c2
  refine near_val f b1 b2 ?_ ?_
  · rw [← e1] at c2; generalize i * (TT : Int) = w at *; omega
  · rw [← e1] at c1; generalize i * (TT : Int) = w at *; omega
theorem big_val : Fini (ofInt 160000) ∧ val (ofInt 160000) = 160000 * TT := ⟨fini_of (by decide +kernel), by unfold TT; decide +kernel⟩
/-- the product by 160000 -/
theorem In.big {x : UInt64} {l h : Int} (X : In x l h) (b1 : -450359962737049600000000000000000000 - 1600000000000000000000000 ≤ l) (b2 : h ≤ 450359962737049600000000000000000000 + 1600000000000000000000000) : In (Float64.mul (ofInt 160000) x) (160000 * l - 13107200000000000000000000) (160000 * h + 13107200000000000000000000) := by
  obtain ⟨f, x1, x2⟩ := X
  obtain ⟨fm, vm⟩ := big_val
  have hT := T_J
  have hJ := J_pos
  have hTp : (0 : Int) < TT := Int.ofNat_lt.mpr TT_pos
  have c1 := le_J b1
  have c2 := le_J b2
  have ep : val (ofInt 160000) * val x = (TT : Int) * (160000 * val x) := by rw [vm]; ac_rfl
  have hp : (2 : Nat) ^ (1039 + 53) = 73786976294838206464 * JJ := by unfold JJ; rw [show (73786976294838206464 : Nat) = 2 ^ 66 by decide, ← Nat.pow_add]
  have hp2 : (2 : Nat) ^ 1039 = 8192 * JJ := by unfold JJ; rw [show (8192 : Nat) = 2 ^ 13 by decide, ← Nat.pow_add]
  have hs : (val (ofInt 160000) * val x).natAbs < TT * 2 ^ (1039 + 53) := by
    rw [ep, Int.natAbs_mul, Int.natAbs_natCast]
    refine Nat.mul_lt_mul_of_pos_left ?_ TT_pos
    rw [hp]
    omega
  obtain ⟨g, z1, z2⟩ := mul_err fm f (g := 1039) (by decide) hs
  rw [ep, Int.natCast_mul, ← Int.mul_add] at z1
  rw [ep, Int.natCast_mul, ← Int.mul_add] at z2
  have z1 := Int.le_of_mul_le_mul_left z1 hTp
  have z2 := Int.le_of_mul_le_mul_left z2 hTp
  rw [hp2] at z1 z2
  refine ⟨g, ?_, ?_⟩
  · rw [Int.sub_mul, Int.mul_assoc]; omega
  · rw [Int.add_mul, Int.mul_assoc]; omega
theorem one_val : Fini 4607182418800017408 ∧ val 4607182418800017408 = TT := ⟨fini_of (by decide +kernel), by unfold TT; decide +kernel⟩
theorem nil_val : Fini 0 ∧ val 0 = 0 := ⟨fini_of (by decide +kernel), by decide +kernel⟩
theorem cmp_val {x y : UInt64} (hx : Fini x) (hy : Fini y) : cmp x y = some (compare (val x) (val y)) := by
  obtain ⟨_, _, _, hx⟩ := hx
  obtain ⟨_, _, _, hy⟩ := hy
  exact cmp_right hx hy
theorem lt_val {x y : UInt64} (hx : Fini x) (hy : Fini y) : (cmp x y == some Ordering.lt) = decide (val x < val y) := by
  rw [cmp_val hx hy]
  by_cases h : val x < val y
  · rw [Int.compare_eq_lt.mpr h, decide_eq_true h]; rfl
  · rw [decide_eq_false h]
    rcases Int.lt_trichotomy (val x) (val y) with q | q | q
    · exact absurd q h
    · rw [q, show compare (val y) (val y) = .eq from Int.compare_eq_eq.mpr rfl]; rfl
    · rw [Int.compare_eq_gt.mpr q]; rfl
theorem gt_val {x y : UInt64} (hx : Fini x) (hy : Fini y) : (cmp x y == some Ordering.gt) = decide (val y < val x) := by
  rw [cmp_val hx hy]
  by_cases h : val y < val x
  · rw [Int.compare_eq_gt.mpr h, decide_eq_true h]; rfl
  · rw [decide_eq_false h]
    rcases Int.lt_trichotomy (val x) (val y) with q | q | q
    · rw [Int.compare_eq_lt.mpr q]; rfl
    · rw [q, show compare (val y) (val y) = .eq from Int.compare_eq_eq.mpr rfl]; rfl
    · exact absurd q h
theorem eq_val {x y : UInt64} (hx : Fini x) (hy : Fini y) : (cmp x y == some Ordering.eq) = decide (val x = val y) := by
  rw [cmp_val hx hy]
  rcases Int.lt_trichotomy (val x) (val y) with q | q | q
  · rw [Int.compare_eq_lt.mpr q, decide_eq_false (by omega)]; rfl
  · rw [q, show compare (val y) (val y) = .eq from Int.compare_eq_eq.mpr rfl, decide_eq_true rfl]; rfl
  · rw [Int.compare_eq_gt.mpr q, decide_eq_false (by omega)]; rfl
/-- cut to 0 and 1 -/
theorem clip_val {x : UInt64} (hx : Fini x) : Fini (clipF x) ∧ val (clipF x) = (if TT < (if val x < 0 then 0 else val x) then (TT : Int) else (if val x < 0 then 0 else val x)) := by
  have h0 := nil_val
  have h1 := one_val
  have hf : Fini (if (cmp x 0 == some .lt) = true then 0 else x) ∧ val (if (cmp x 0 == some .lt) = true then 0 else x) = if val x < 0 then 0 else val x := by
    rw [lt_val hx h0.1, h0.2]
    by_cases q : val x < 0
    · rw [decide_eq_true q, if_pos rfl, if_pos q]; exact h0
    · rw [decide_eq_false q, if_neg (by decide), if_neg q]; exact ⟨hx, rfl⟩
  unfold clipF
  generalize (if (cmp x 0 == some .lt) = true then 0 else x) = y at hf
  rw [gt_val hf.1 h1.1, h1.2, ← hf.2]
  by_cases q : (TT : Int) < val y
  · rw [decide_eq_true q, if_pos rfl, if_pos q]; exact h1
  · rw [decide_eq_false q, if_neg (by decide), if_neg q]; exact ⟨hf.1, rfl⟩
theorem clip_lo {x : UInt64} (hx : Fini x) : (cmp (clipF x) 0 == some Ordering.lt) = false := by
  obtain ⟨f, e⟩ := clip_val hx
  rw [lt_val f nil_val.1, nil_val.2, decide_eq_false_iff_not, e]
  split <;> (try split) <;> omega
theorem clip_hi {x : UInt64} (hx : Fini x) : (cmp (clipF x) 4607182418800017408 == some Ordering.gt) = false := by
  obtain ⟨f, e⟩ := clip_val hx
  rw [gt_val f one_val.1, one_val.2, decide_eq_false_iff_not, e]
  split <;> (try split) <;> omega
theorem up_clip {J : Int} (hJ : 0 ≤ J) (z : Int) {K : Int} (hK : 0 ≤ K) : min (max z 0) K * J = min (max (z * J) 0) (K * J) := by
  rcases Int.le_total z 0 with a | a
  · have h : z * J ≤ 0 * J := Int.mul_le_mul_of_nonneg_right a hJ
    rw [Int.zero_mul] at h
    rw [Int.max_eq_right a, Int.max_eq_right h, Int.min_eq_left hK, Int.zero_mul, Int.min_eq_left (Int.mul_nonneg hK hJ)]
  · rw [Int.max_eq_left a, Int.max_eq_left (Int.mul_nonneg a hJ)]
    rcases Int.le_total z K with b | b
    · rw [Int.min_eq_left b, Int.min_eq_left (Int.mul_le_mul_of_nonneg_right b hJ)]
    · rw [Int.min_eq_right b, Int.min_eq_right (Int.mul_le_mul_of_nonneg_right b hJ)]
theorem clip_if {v T : Int} (hT : 0 ≤ T) : (if T < (if v < 0 then 0 else v) then T else (if v < 0 then 0 else v)) = min (max v 0) T := by
  by_cases q : v < 0
  · rw [if_pos q, if_neg (Int.not_lt.mpr hT), Int.max_eq_right (Int.le_of_lt q), Int.min_eq_left hT]
  · rw [if_neg q, Int.max_eq_left (Int.not_lt.mp q)]
    by_cases r : T < v
    · rw [if_pos r, Int.min_eq_right (Int.le_of_lt r)]
    · rw [if_neg r, Int.min_eq_left (Int.not_lt.mp r)]
theorem clip_mono {a b c : Int} (h : a ≤ b) : min (max a 0) c ≤ min (max b 0) c :=
  Int.le_min.mpr ⟨Int.le_trans (Int.min_le_left ..) (Int.max_le.mpr ⟨Int.le_trans h (Int.le_max_left ..), Int.le_max_right ..⟩), Int.min_le_right ..⟩
theorem In.clip {x : UInt64} {l h : Int} (X : In x l h) : In (clipF x) (min (max l 0) 450359962737049600000000000000000000) (min (max h 0) 450359962737049600000000000000000000) := by
  obtain ⟨f, x1, x2⟩ := X
  obtain ⟨g, e⟩ := clip_val f
  have hT := T_J
  have hJ := Int.le_of_lt J_pos
  have hTp : (0 : Int) ≤ TT := Int.natCast_nonneg _
  have hK : (TT : Int) * 1600000000000000000000 = 450359962737049600000000000000000000 * JJ := by rw [hT]; omega
  have e2 : val (clipF x) * 1600000000000000000000 = min (max (val x * 1600000000000000000000) 0) (450359962737049600000000000000000000 * (JJ : Int)) := by
    rw [e, clip_if hTp, up_clip (by decide) _ hTp, hK]
  refine ⟨g, ?_, ?_⟩
  · rw [e2, up_clip hJ _ (by decide)]; exact clip_mono x1
  · rw [e2, up_clip hJ _ (by decide)]; exact clip_mono x2
end
section
open PySem.Float64
theorem nr_30 : Near 4599075939470750515 3000000000000000 := ⟨fini_of (by decide +kernel), by unfold TT JJ; decide +kernel⟩
theorem nr_59 : Near 4603489467105573601 5900000000000000 := ⟨fini_of (by decide +kernel), by unfold TT JJ; decide +kernel⟩
theorem nr_11 : Near 4592590756007337001 1100000000000000 := ⟨fini_of (by decide +kernel), by unfold TT JJ; decide +kernel⟩
theorem nr_74 : Near 4604840546993784750 7400000000000000 := ⟨fini_of (by decide +kernel), by unfold TT JJ; decide +kernel⟩
theorem nr_27 : Near 4598535507515466056 2700000000000000 := ⟨fini_of (by decide +kernel), by unfold TT JJ; decide +kernel⟩
theorem nr_48 : Near 4602318531202457272 4800000000000000 := ⟨fini_of (by decide +kernel), by unfold TT JJ; decide +kernel⟩
theorem nr_41 : Near 4601057523306793533 4100000000000000 := ⟨fini_of (by decide +kernel), by unfold TT JJ; decide +kernel⟩
theorem nr_r1 : Near 4606703976345377586 9468822170900693 := ⟨fini_of (by decide +kernel), by unfold TT JJ; decide +kernel⟩
theorem nr_r2 : Near 4603791717925830846 6235565819861433 := ⟨fini_of (by decide +kernel), by unfold TT JJ; decide +kernel⟩
theorem nr_g1 : Near 4598621754083818298 2747876462989783 := ⟨fini_of (by decide +kernel), by unfold TT JJ; decide +kernel⟩
theorem nr_g2 : Near 4603901015759978483 6356910791873801 := ⟨fini_of (by decide +kernel), by unfold TT JJ; decide +kernel⟩
theorem nr_b1 : Near 4607671262177584182 11085450346420322 := ⟨fini_of (by decide +kernel), by unfold TT JJ; decide +kernel⟩
theorem nr_b2 : Near 4610375502138591871 17090069284064666 := ⟨fini_of (by decide +kernel), by unfold TT JJ; decide +kernel⟩
theorem nr_i1 : Near (ofInt 1) 10000000000000000 := ⟨fini_of (by decide +kernel), by unfold TT JJ; decide +kernel⟩
theorem nr_i2 : Near (ofInt 2) 20000000000000000 := ⟨fini_of (by decide +kernel), by unfold TT JJ; decide +kernel⟩
theorem nr_i3 : Near (ofInt 3) 30000000000000000 := ⟨fini_of (by decide +kernel), by unfold TT JJ; decide +kernel⟩
theorem nr_i16 : Near (ofInt 16) 160000000000000000 := ⟨fini_of (by decide +kernel), by unfold TT JJ; decide +kernel⟩

noncomputable def sixB (n : Nat) : Bool := isFinite (divI (n : Int) 16) && decide (val (divI (n : Int) 16) * 1600000000000000000000 = (n : Int) * 28147497671065600000000000000000000 * JJ)
theorem six_all : (List.range 17).all sixB = true := by unfold sixB JJ; decide +kernel
theorem six_in {a : Int} (h0 : 0 ≤ a) (h1 : a ≤ 16) : In (divI a 16) (a * 28147497671065600000000000000000000) (a * 28147497671065600000000000000000000) := by
  obtain ⟨n, rfl⟩ : ∃ n : Nat, a = n := ⟨a.toNat, by omega⟩
  have h := List.all_eq_true.mp six_all n (List.mem_range.mpr (by omega))
  unfold sixB at h
  rw [Bool.and_eq_true, decide_eq_true_eq] at h
  refine ⟨fini_of h.1, ?_, ?_⟩
  · rw [h.2]; exact Int.le_refl _
  · rw [h.2]; exact Int.le_refl _
theorem m4_in : In (divI (-4) 16) (-4 * 28147497671065600000000000000000000) (-4 * 28147497671065600000000000000000000) := ⟨fini_of (by decide +kernel), by unfold JJ; decide +kernel⟩

section
variable {a b c : Int} {r g bl : UInt64}
theorem yiq_in (ha0 : 0 ≤ a) (ha : a ≤ 16) (hb0 : 0 ≤ b) (hb : b ≤ 16) (hc0 : 0 ≤ c) (hc : c ≤ 16) (R : In r (a * 28147497671065600000000000000000000) (a * 28147497671065600000000000000000000)) (G : In g (b * 28147497671065600000000000000000000) (b * 28147497671065600000000000000000000)) (B : In bl (c * 28147497671065600000000000000000000) (c * 28147497671065600000000000000000000)) :
    In (yiqY r g bl) ((8444249301319680000000000000000000 * a + 16607023625928704000000000000000000 * b + 3096224743817216000000000000000000 * c) - 17600000000000000000000) ((8444249301319680000000000000000000 * a + 16607023625928704000000000000000000 * b + 3096224743817216000000000000000000 * c) + 17600000000000000000000) ∧ In (yiqI r bl (yiqY r g bl)) ((16860351104968294400000000000000000 * a + -7805301104186490880000000000000000 * b + -9055050000781803520000000000000000 * c) - 46400000000000000000000) ((16860351104968294400000000000000000 * a + -7805301104186490880000000000000000 * b + -9055050000781803520000000000000000 * c) + 46400000000000000000000) ∧ In (yiqQ r bl (yiqY r g bl)) ((5995417003936972800000000000000000 * a + -14780251027076546560000000000000000 * b + 8784834023139573760000000000000000 * c) - 46400000000000000000000) ((5995417003936972800000000000000000 * a + -14780251027076546560000000000000000 * b + 8784834023139573760000000000000000 * c) + 46400000000000000000000) := by
  have H : Box a b c 0 := ⟨⟨ha0, ha⟩, ⟨hb0, hb⟩, ⟨hc0, hc⟩, by decide, by decide⟩
  have y : Lin (yiqY r g bl) 8444249301319680000000000000000000 16607023625928704000000000000000000 3096224743817216000000000000000000 0 17600000000000000000000 a b c 0 := (Lin.mono 8444249301319680000000000000000000 16607023625928704000000000000000000 3096224743817216000000000000000000 0 17600000000000000000000 H (Lin.add 8444249301319680000000000000000000 16607023625928704000000000000000000 3096224743817216000000000000000000 0 12800000000000000000000 H (Lin.add 8444249301319680000000000000000000 16607023625928704000000000000000000 0 0 8000000000000000000000 H (Lin.mul 8444249301319680000000000000000000 0 0 0 3200000000000000000000 nr_30 H (Lin.of_a R) (by decide +kernel)) (Lin.mul 0 16607023625928704000000000000000000 0 0 3200000000000000000000 nr_59 H (Lin.of_b G) (by decide +kernel)) (by decide +kernel)) (Lin.mul 0 0 3096224743817216000000000000000000 0 3200000000000000000000 nr_11 H (Lin.of_c B) (by decide +kernel)) (by decide +kernel)) (by decide +kernel))
  have ry : Lin (Float64.sub r (yiqY r g bl)) 19703248369745920000000000000000000 (-16607023625928704000000000000000000) (-3096224743817216000000000000000000) 0 19200000000000000000000 a b c 0 := (Lin.sub 19703248369745920000000000000000000 (-16607023625928704000000000000000000) (-3096224743817216000000000000000000) 0 19200000000000000000000 H (Lin.of_a R) y (by decide +kernel))
  have by_ : Lin (Float64.sub bl (yiqY r g bl)) (-8444249301319680000000000000000000) (-16607023625928704000000000000000000) 25051272927248384000000000000000000 0 19200000000000000000000 a b c 0 := (Lin.sub (-8444249301319680000000000000000000) (-16607023625928704000000000000000000) 25051272927248384000000000000000000 0 19200000000000000000000 H (Lin.of_c B) y (by decide +kernel))
  have i : Lin (yiqI r bl (yiqY r g bl)) 16860351104968294400000000000000000 (-7805301104186490880000000000000000) (-9055050000781803520000000000000000) 0 46400000000000000000000 a b c 0 := (Lin.mono 16860351104968294400000000000000000 (-7805301104186490880000000000000000) (-9055050000781803520000000000000000) 0 46400000000000000000000 H (Lin.sub 16860351104968294400000000000000000 (-7805301104186490880000000000000000) (-9055050000781803520000000000000000) 0 27392000000000000000000 H (Lin.mul 14580403793611980800000000000000000 (-12289197483187240960000000000000000) (-2291206310424739840000000000000000) 0 17408000000000000000000 nr_74 H ry (by decide +kernel)) (Lin.mul (-2279947311356313600000000000000000) (-4483896379000750080000000000000000) 6763843690357063680000000000000000 0 8384000000000000000000 nr_27 H by_ (by decide +kernel)) (by decide +kernel)) (by decide +kernel))
  have q : Lin (yiqQ r bl (yiqY r g bl)) 5995417003936972800000000000000000 (-14780251027076546560000000000000000) 8784834023139573760000000000000000 0 46400000000000000000000 a b c 0 := (Lin.mono 5995417003936972800000000000000000 (-14780251027076546560000000000000000) 8784834023139573760000000000000000 0 46400000000000000000000 H (Lin.add 5995417003936972800000000000000000 (-14780251027076546560000000000000000) 8784834023139573760000000000000000 0 25088000000000000000000 H (Lin.mul 9457559217478041600000000000000000 (-7971371340445777920000000000000000) (-1486187877032263680000000000000000) 0 12416000000000000000000 nr_48 H ry (by decide +kernel)) (Lin.mul (-3462142213541068800000000000000000) (-6808879686630768640000000000000000) 10271021900171837440000000000000000 0 11072000000000000000000 nr_41 H by_ (by decide +kernel)) (by decide +kernel)) (by decide +kernel))
  exact ⟨y.to3, i.to3, q.to3⟩
theorem Lin.to_a {x : UInt64} {K e m : Int} (X : Lin x K 0 0 K e a b c m) : In x ((a + m) * K - e) ((a + m) * K + e) := by
  have h : L4 K 0 0 K a b c m = (a + m) * K := by unfold L4; simp only [Int.zero_mul, Int.add_zero]; rw [Int.add_mul, Int.mul_comm K a, Int.mul_comm K m]
  unfold Lin at X
  rw [h] at X
  exact X
theorem Lin.to_b {x : UInt64} {K e m : Int} (X : Lin x 0 K 0 K e a b c m) : In x ((b + m) * K - e) ((b + m) * K + e) := by
  have h : L4 0 K 0 K a b c m = (b + m) * K := by unfold L4; simp only [Int.zero_mul, Int.add_zero, Int.zero_add]; rw [Int.add_mul, Int.mul_comm K b, Int.mul_comm K m]
  unfold Lin at X
  rw [h] at X
  exact X
theorem Lin.to_c {x : UInt64} {K e m : Int} (X : Lin x 0 0 K K e a b c m) : In x ((c + m) * K - e) ((c + m) * K + e) := by
  have h : L4 0 0 K K a b c m = (c + m) * K := by unfold L4; simp only [Int.zero_mul, Int.add_zero, Int.zero_add]; rw [Int.add_mul, Int.mul_comm K c, Int.mul_comm K m]
  unfold Lin at X
  rw [h] at X
  exact X
theorem rgb_in (ha0 : 0 ≤ a) (ha : a ≤ 16) (hb0 : 0 ≤ b) (hb : b ≤ 16) (hc0 : 0 ≤ c) (hc : c ≤ 16) {m : Int} (hm : -4 ≤ m) (hm' : m ≤ 12) {L0 L1 L2 d : UInt64} (D : In d (m * 28147497671065600000000000000000000) (m * 28147497671065600000000000000000000))
    (Y : In L0 ((8444249301319680000000000000000000 * a + 16607023625928704000000000000000000 * b + 3096224743817216000000000000000000 * c) - 96000000000000000000000) ((8444249301319680000000000000000000 * a + 16607023625928704000000000000000000 * b + 3096224743817216000000000000000000 * c) + 96000000000000000000000)) (I : In L1 ((16860351104968294400000000000000000 * a + -7805301104186490880000000000000000 * b + -9055050000781803520000000000000000 * c) - 208000000000000000000000) ((16860351104968294400000000000000000 * a + -7805301104186490880000000000000000 * b + -9055050000781803520000000000000000 * c) + 208000000000000000000000)) (Q : In L2 ((5995417003936972800000000000000000 * a + -14780251027076546560000000000000000 * b + 8784834023139573760000000000000000 * c) - 208000000000000000000000) ((5995417003936972800000000000000000 * a + -14780251027076546560000000000000000 * b + 8784834023139573760000000000000000 * c) + 208000000000000000000000)) :
    In (rgbR (Float64.add L0 d) L1 L2) ((a + m) * 28147497671065600000000000000000000 - 1120000000000000000000000) ((a + m) * 28147497671065600000000000000000000 + 1120000000000000000000000) ∧ In (rgbG (Float64.add L0 d) L1 L2) ((b + m) * 28147497671065600000000000000000000 - 1120000000000000000000000) ((b + m) * 28147497671065600000000000000000000 + 1120000000000000000000000) ∧ In (rgbB (Float64.add L0 d) L1 L2) ((c + m) * 28147497671065600000000000000000000 - 1120000000000000000000000) ((c + m) * 28147497671065600000000000000000000 + 1120000000000000000000000) := by
  have H : Box a b c m := ⟨⟨ha0, ha⟩, ⟨hb0, hb⟩, ⟨hc0, hc⟩, by omega, by omega⟩
  have Y' : Lin L0 8444249301319680000000000000000000 16607023625928704000000000000000000 3096224743817216000000000000000000 0 96000000000000000000000 a b c m := Lin.of3 Y
  have I' : Lin L1 16860351104968294400000000000000000 (-7805301104186490880000000000000000) (-9055050000781803520000000000000000) 0 208000000000000000000000 a b c m := Lin.of3 I
  have Q' : Lin L2 5995417003936972800000000000000000 (-14780251027076546560000000000000000) 8784834023139573760000000000000000 0 208000000000000000000000 a b c m := Lin.of3 Q
  have y : Lin (Float64.add L0 d) 8444249301319680000000000000000000 16607023625928704000000000000000000 3096224743817216000000000000000000 28147497671065600000000000000000000 97600000000000000000000 a b c m := (Lin.add 8444249301319680000000000000000000 16607023625928704000000000000000000 3096224743817216000000000000000000 28147497671065600000000000000000000 97600000000000000000000 H Y' (Lin.of_m D) (by decide +kernel))
  have rr : Lin (rgbR (Float64.add L0 d) L1 L2) 28147497671065600000000000000000000 0 0 28147497671065600000000000000000000 1120000000000000000000000 a b c m := (Lin.mono 28147497671065600000000000000000000 0 0 28147497671065600000000000000000000 1120000000000000000000000 H (Lin.add 28147497671065600945755921747804160 (-1793558551600300032) 847802629852495872 28147497671065600000000000000000000 433851270207852220800000 H (Lin.add 24409015936509058337959405598801920 9216322811341033527352014736982016 (-5477841076784491865311420335783936) 28147497671065600000000000000000000 299351501154734414400000 H y (Lin.mul 15964766635189378337959405598801920 (-7390700814587670472647985263017984) (-8574065820601707865311420335783936) 0 200151501154734414400000 nr_r1 H I' (by decide +kernel)) (by decide +kernel)) (Lin.mul 3738481734556542607796516149002240 (-9216322811341035320910566337282048) 5477841076784492713114050188279808 0 132899769053117806400000 nr_r2 H Q' (by decide +kernel)) (by decide +kernel)) (by decide +kernel))
  have gg : Lin (rgbG (Float64.add L0 d) L1 L2) 0 28147497671065600000000000000000000 0 28147497671065600000000000000000000 1120000000000000000000000 a b c m := (Lin.mono 0 28147497671065600000000000000000000 0 28147497671065600000000000000000000 1120000000000000000000000 H (Lin.sub 1041457413829427200 28147497671065599242832312648335360 (-284289726477762560) 28147497671065600000000000000000000 296579574901162547200000 H (Lin.sub 3811233105411064366422475386388480 18751823945002926229033468406267904 5584440620651609404544056207343616 28147497671065600000000000000000000 159555830430187486400000 H y (Lin.mul 4633016195908615633577524613611520 (-2144800319074222229033468406267904) (-2488215876834393404544056207343616) 0 60355830430187486400000 nr_g1 H I' (by decide +kernel)) (by decide +kernel)) (Lin.mul 3811233105411063324965061556961280 (-9395673726062673013798844242067456) 5584440620651609688833782685106176 0 135423744470975060800000 nr_g2 H Q' (by decide +kernel)) (by decide +kernel)) (by decide +kernel))
  have bb : Lin (rgbB (Float64.add L0 d) L1 L2) 0 0 28147497671065600000000000000000000 28147497671065600000000000000000000 1120000000000000000000000 a b c m := (Lin.mono 0 0 28147497671065600000000000000000000 28147497671065600000000000000000000 1120000000000000000000000 H (Lin.add 2758454771764428800 (-2324983307630018560) 28147497671065599566528535865589760 28147497671065600000000000000000000 693250808314087750400000 H (Lin.sub (-10246209198414223797265234583879680) 25259551408860609714493571869966336 13134155460619214082771662713913344 28147497671065600000000000000000000 332977367205542697600000 H y (Lin.mul 18690458499733903797265234583879680 (-8652527782931905714493571869966336) (-10037930716801998082771662713913344) 0 233777367205542697600000 nr_b1 H I' (by decide +kernel)) (by decide +kernel)) (Lin.mul 10246209198414226555720006348308480 (-25259551408860612039476879499984896) 15013342210446385483756873151676416 0 358673441108545052800000 nr_b2 H Q' (by decide +kernel)) (by decide +kernel)) (by decide +kernel))
  exact ⟨rr.to_a, gg.to_b, bb.to_c⟩
theorem near3_of (ha0 : 0 ≤ a) (ha : a ≤ 16) (hb0 : 0 ≤ b) (hb : b ≤ 16) (hc0 : 0 ≤ c) (hc : c ≤ 16) (R : In r (a * 28147497671065600000000000000000000) (a * 28147497671065600000000000000000000)) (G : In g (b * 28147497671065600000000000000000000) (b * 28147497671065600000000000000000000)) (B : In bl (c * 28147497671065600000000000000000000) (c * 28147497671065600000000000000000000)) :
    nearB (Float64.mul (ofInt 160000) (yiqY r g bl)) (3000 * a + 5900 * b + 1100 * c) = true ∧ nearB (Float64.mul (ofInt 160000) (yiqI r bl (yiqY r g bl))) (5990 * a - 2773 * b - 3217 * c) = true ∧ nearB (Float64.mul (ofInt 160000) (yiqQ r bl (yiqY r g bl))) (2130 * a - 5251 * b + 3121 * c) = true := by
  obtain ⟨y, i, q⟩ := yiq_in ha0 ha hb0 hb hc0 hc R G B
  exact ⟨In.near (In.big y (by omega) (by omega)) (by omega) (by omega) (by omega) (by omega), In.near (In.big i (by omega) (by omega)) (by omega) (by omega) (by omega) (by omega), In.near (In.big q (by omega) (by omega)) (by omega) (by omega) (by omega) (by omega)⟩
theorem told_near {x : UInt64} {z : Int} (h : In x (z * 28147497671065600000000000000000000 - 1120000000000000000000000) (z * 28147497671065600000000000000000000 + 1120000000000000000000000)) (z1 : -4 ≤ z) (z2 : z ≤ 28) : nearB (Float64.mul (ofInt 16) (clipF x)) (min 16 (max 0 z)) = true := by
  have w0 : (0 : Int) ≤ min 16 (max 0 z) := Int.le_min.mpr ⟨by decide, Int.le_max_left ..⟩
  have w1 : min 16 (max 0 z) ≤ (16 : Int) := Int.min_le_left ..
  have q : In (clipF x) (min 16 (max 0 z) * 28147497671065600000000000000000000 - 1120000000000000000000000) (min 16 (max 0 z) * 28147497671065600000000000000000000 + 1120000000000000000000000) := In.mono (In.clip h) (by omega) (by omega)
  clear z1 z2 h
  generalize min 16 (max 0 z) = w at *
  have p : In (Float64.mul (ofInt 16) (clipF x)) (w * 450359962737049600000000000000000000 - 19200000000000000000000000) (w * 450359962737049600000000000000000000 + 19200000000000000000000000) := In.mul nr_i16 q (by omega) (by omega) (by omega) (by omega) (by omega) (by omega)
  exact In.near p (Int.le_trans (by decide) w0) (Int.le_trans w1 (by decide)) (Int.sub_le_sub_left (by decide) _) (Int.add_le_add_left (by decide) _)
end
theorem L_gen {x y : UInt64} {k P α β γ e p q s u v z a b c : Int} (e' e'' : Int) (nr : Near (ofInt k) P) (H1 : Box p q s 0) (H2 : Box u v z 0) (ea : a = p + k * u) (eb : b = q + k * v) (ec : c = s + k * z) (X : Lin x α β γ 0 e p q s 0) (Y : Lin y α β γ 0 e u v z 0)
    (k1 : decide (k * α * 10000000000000000 = P * α ∧ k * β * 10000000000000000 = P * β ∧ k * γ * 10000000000000000 = P * γ ∧ 0 * 10000000000000000 = P * 0 ∧ P * e + 32000000000000000000000000000000000000 ≤ e' * 10000000000000000 ∧
      S4 α β γ 0 + e ≤ 6755399441055744000000000000000000000 ∧ S4 (k * α) (k * β) (k * γ) 0 + e' ≤ 13510798882111488000000000000000000000) = true)
    (k2 : decide (S4 α β γ 0 + S4 (k * α) (k * β) (k * γ) 0 + e + e' ≤ 13510798882111488000000000000000000000 ∧ e + e' + 1600000000000000000000 ≤ e'') = true) : In (Float64.add x (Float64.mul (ofInt k) y)) ((α * a + β * b + γ * c) - e'') ((α * a + β * b + γ * c) + e'') := by
  have Z := Lin.mul (k * α) (k * β) (k * γ) 0 e' nr H2 Y k1
  obtain ⟨k3, k4⟩ := of_decide_eq_true k2
  have h1 := L4_le (α := α) (β := β) (γ := γ) (δ := 0) H1
  have h2 := L4_le (α := k * α) (β := k * β) (γ := k * γ) (δ := 0) H2
  have go : ∀ {t w v : Int}, t * (w + k * v) = t * w + k * t * v := fun {t w v} => by rw [Int.mul_add, ← Int.mul_assoc, Int.mul_comm t k]
  have he : α * a + β * b + γ * c = L4 α β γ 0 p q s 0 + L4 (k * α) (k * β) (k * γ) 0 u v z 0 := by
    subst ea eb ec
    unfold L4
    rw [go, go, go]
    omega
  rw [he]
  unfold Lin at X Z
  generalize L4 α β γ 0 p q s 0 = L1 at *
  generalize L4 (k * α) (k * β) (k * γ) 0 u v z 0 = L2 at *
  exact In.mono (In.add X Z (by omega) (by omega)) (by omega) (by omega)
theorem L_y {p q s u v z k a b c : Int} {x y : UInt64} (hk : k = 1 ∨ k = 2 ∨ k = 3) (hp : 0 ≤ p ∧ p ≤ 9) (hq : 0 ≤ q ∧ q ≤ 9) (hs : 0 ≤ s ∧ s ≤ 9) (hu : 0 ≤ u ∧ u ≤ 1) (hv : 0 ≤ v ∧ v ≤ 1) (hz : 0 ≤ z ∧ z ≤ 1) (ea : a = p + k * u) (eb : b = q + k * v) (ec : c = s + k * z)
    (hx : In x ((8444249301319680000000000000000000 * p + 16607023625928704000000000000000000 * q + 3096224743817216000000000000000000 * s) - 17600000000000000000000) ((8444249301319680000000000000000000 * p + 16607023625928704000000000000000000 * q + 3096224743817216000000000000000000 * s) + 17600000000000000000000)) (hy : In y ((8444249301319680000000000000000000 * u + 16607023625928704000000000000000000 * v + 3096224743817216000000000000000000 * z) - 17600000000000000000000) ((8444249301319680000000000000000000 * u + 16607023625928704000000000000000000 * v + 3096224743817216000000000000000000 * z) + 17600000000000000000000)) : In (Float64.add x (Float64.mul (ofInt k) y)) ((8444249301319680000000000000000000 * a + 16607023625928704000000000000000000 * b + 3096224743817216000000000000000000 * c) - 96000000000000000000000) ((8444249301319680000000000000000000 * a + 16607023625928704000000000000000000 * b + 3096224743817216000000000000000000 * c) + 96000000000000000000000) := by
  have H1 : Box p q s 0 := ⟨⟨hp.1, by omega⟩, ⟨hq.1, by omega⟩, ⟨hs.1, by omega⟩, by decide, by decide⟩
  have H2 : Box u v z 0 := ⟨⟨hu.1, by omega⟩, ⟨hv.1, by omega⟩, ⟨hz.1, by omega⟩, by decide, by decide⟩
  rcases hk with rfl | rfl | rfl
  · exact L_gen 20800000000000000000000 96000000000000000000000 nr_i1 H1 H2 ea eb ec (Lin.of3 hx) (Lin.of3 hy) (by decide +kernel) (by decide +kernel)
  · exact L_gen 38400000000000000000000 96000000000000000000000 nr_i2 H1 H2 ea eb ec (Lin.of3 hx) (Lin.of3 hy) (by decide +kernel) (by decide +kernel)
  · exact L_gen 56000000000000000000000 96000000000000000000000 nr_i3 H1 H2 ea eb ec (Lin.of3 hx) (Lin.of3 hy) (by decide +kernel) (by decide +kernel)
theorem L_i {p q s u v z k a b c : Int} {x y : UInt64} (hk : k = 1 ∨ k = 2 ∨ k = 3) (hp : 0 ≤ p ∧ p ≤ 9) (hq : 0 ≤ q ∧ q ≤ 9) (hs : 0 ≤ s ∧ s ≤ 9) (hu : 0 ≤ u ∧ u ≤ 1) (hv : 0 ≤ v ∧ v ≤ 1) (hz : 0 ≤ z ∧ z ≤ 1) (ea : a = p + k * u) (eb : b = q + k * v) (ec : c = s + k * z)
    (hx : In x ((16860351104968294400000000000000000 * p + -7805301104186490880000000000000000 * q + -9055050000781803520000000000000000 * s) - 46400000000000000000000) ((16860351104968294400000000000000000 * p + -7805301104186490880000000000000000 * q + -9055050000781803520000000000000000 * s) + 46400000000000000000000)) (hy : In y ((16860351104968294400000000000000000 * u + -7805301104186490880000000000000000 * v + -9055050000781803520000000000000000 * z) - 46400000000000000000000) ((16860351104968294400000000000000000 * u + -7805301104186490880000000000000000 * v + -9055050000781803520000000000000000 * z) + 46400000000000000000000)) : In (Float64.add x (Float64.mul (ofInt k) y)) ((16860351104968294400000000000000000 * a + -7805301104186490880000000000000000 * b + -9055050000781803520000000000000000 * c) - 208000000000000000000000) ((16860351104968294400000000000000000 * a + -7805301104186490880000000000000000 * b + -9055050000781803520000000000000000 * c) + 208000000000000000000000) := by
  have H1 : Box p q s 0 := ⟨⟨hp.1, by omega⟩, ⟨hq.1, by omega⟩, ⟨hs.1, by omega⟩, by decide, by decide⟩
  have H2 : Box u v z 0 := ⟨⟨hu.1, by omega⟩, ⟨hv.1, by omega⟩, ⟨hz.1, by omega⟩, by decide, by decide⟩
  rcases hk with rfl | rfl | rfl
  · exact L_gen 49600000000000000000000 208000000000000000000000 nr_i1 H1 H2 ea eb ec (Lin.of3 hx) (Lin.of3 hy) (by decide +kernel) (by decide +kernel)
  · exact L_gen 96000000000000000000000 208000000000000000000000 nr_i2 H1 H2 ea eb ec (Lin.of3 hx) (Lin.of3 hy) (by decide +kernel) (by decide +kernel)
  · exact L_gen 142400000000000000000000 208000000000000000000000 nr_i3 H1 H2 ea eb ec (Lin.of3 hx) (Lin.of3 hy) (by decide +kernel) (by decide +kernel)
theorem L_q {p q s u v z k a b c : Int} {x y : UInt64} (hk : k = 1 ∨ k = 2 ∨ k = 3) (hp : 0 ≤ p ∧ p ≤ 9) (hq : 0 ≤ q ∧ q ≤ 9) (hs : 0 ≤ s ∧ s ≤ 9) (hu : 0 ≤ u ∧ u ≤ 1) (hv : 0 ≤ v ∧ v ≤ 1) (hz : 0 ≤ z ∧ z ≤ 1) (ea : a = p + k * u) (eb : b = q + k * v) (ec : c = s + k * z)
    (hx : In x ((5995417003936972800000000000000000 * p + -14780251027076546560000000000000000 * q + 8784834023139573760000000000000000 * s) - 46400000000000000000000) ((5995417003936972800000000000000000 * p + -14780251027076546560000000000000000 * q + 8784834023139573760000000000000000 * s) + 46400000000000000000000)) (hy : In y ((5995417003936972800000000000000000 * u + -14780251027076546560000000000000000 * v + 8784834023139573760000000000000000 * z) - 46400000000000000000000) ((5995417003936972800000000000000000 * u + -14780251027076546560000000000000000 * v + 8784834023139573760000000000000000 * z) + 46400000000000000000000)) : In (Float64.add x (Float64.mul (ofInt k) y)) ((5995417003936972800000000000000000 * a + -14780251027076546560000000000000000 * b + 8784834023139573760000000000000000 * c) - 208000000000000000000000) ((5995417003936972800000000000000000 * a + -14780251027076546560000000000000000 * b + 8784834023139573760000000000000000 * c) + 208000000000000000000000) := by
  have H1 : Box p q s 0 := ⟨⟨hp.1, by omega⟩, ⟨hq.1, by omega⟩, ⟨hs.1, by omega⟩, by decide, by decide⟩
  have H2 : Box u v z 0 := ⟨⟨hu.1, by omega⟩, ⟨hv.1, by omega⟩, ⟨hz.1, by omega⟩, by decide, by decide⟩
  rcases hk with rfl | rfl | rfl
  · exact L_gen 49600000000000000000000 208000000000000000000000 nr_i1 H1 H2 ea eb ec (Lin.of3 hx) (Lin.of3 hy) (by decide +kernel) (by decide +kernel)
  · exact L_gen 96000000000000000000000 208000000000000000000000 nr_i2 H1 H2 ea eb ec (Lin.of3 hx) (Lin.of3 hy) (by decide +kernel) (by decide +kernel)
  · exact L_gen 142400000000000000000000 208000000000000000000000 nr_i3 H1 H2 ea eb ec (Lin.of3 hx) (Lin.of3 hy) (by decide +kernel) (by decide +kernel)
end
section
/-- the map and the cells of a frame, said beforehand -/
noncomputable def Mp (_ : Str → Option Value) (_ : Str → Option Value) : Prop := True
section
variable {prog : Program} {w : World} {A A₀ : Around} {s : Shared} {K : Frag} {L : Addr} {h₀ base : Heap} {m mg mb : Str → Option Value} {news : List (Addr × Obj)} {p : Program} {loose : List Str} {mean : ExcName → Option Value}
theorem code_defPC2 {env : Env} {outer : List Env} {R : Result → Shared → Prop} {name qual : Str} {params : Arguments} {body : List Stmt} {scope : Scope} {dV kV doc pm cdv ct oc : Value} {an od : Option Addr} {osl : Array (Option Value)} {f : Addr} {args : Args} {binds : List (Str × Value)} {mL mC : Str → Option Value}
    (_hB : Mp mL mC) (B : Below A₀ base outer h₀) (F : Fr h₀ L s.heap m) (X₀ : K.In h₀) (N : News h₀ L s.heap news) (T : Top p loose mean mg mb h₀) (hA : A.frames = some (env :: outer)) (hf : env.frame = some L) (hke : env.scope.kind = .function)
    (ho : K.lookup f = some ⟨oc, od, .func (fnOf name qual params body scope dV kV doc pm an cdv ct), osl⟩) (hcd : codeIn K cdv qual = true) (hroom : A.depth < recursionLimit)
    (hbind : BindsTo s (fnOf name qual params body scope dV kV doc pm an cdv ct) args binds) (hkind : (binds.all fun y => scope.names.lookup y.1 == some .local || scope.names.lookup y.1 == some .cell) = true)
    (hnd : ((cellsFrom 0 scope.names []).map (·.1)).Nodup)
    (hmL : ∀ L', bindL (envOfC qual scope L' f cdv).kindOf binds (fun _ => none) = mL) (hmC : ∀ L', bindC (envOfC qual scope L' f cdv).kindOf binds (fun _ => none) = mC)
    (h : ∀ g L' h₁ tk cells, Hid g s.heap news → Fr h₀ L g m → Fr g L' h₁ mL → News g L' h₁ (cells ++ news) →
      CellsAre mC (cellsFrom (L' + 1) scope.names []) cells → Below A base (env :: outer) g → K.In g → Top p loose mean mg mb g → (∀ p ∈ news, p.1 < L') →
      wpAny (model prog w) (A.deeper (envOfC qual scope L' f cdv)) (execs body (envOfC qual scope L' f cdv))
        (fun fl s' => LeaveK h₀ L m g R (match fl with | .ret v => v | _ => .none) s')
        (fun e s' => wpAny (model prog w) (A.deeper (envOfC qual scope L' f cdv)) (leaving (envOfC qual scope L' f cdv) e) (fun _ s'' => R (.error e) s'') (fun e' s'' => R (.error e') s'') s')
        { s with heap := h₁, toks := tk })
    (hco : scope.isCoroutine = false) (hgen : scope.isGenerator = false) (hk : scope.kind = .function) : codeAny (model prog w) A (.call (.ref f) args) R s :=
  code_defPC B F X₀ N T hA hf hke ho hcd hroom hbind hkind hnd (fun g L' h₁ tk cells a1 a2 a3 a4 a5 a6 a7 a8 a9 => h g L' h₁ tk cells a1 a2 (hmL L' ▸ a3) a4 (hmC L' ▸ a5) a6 a7 a8 a9) hco hgen hk
end
/-- a map, but for the names xs -/
noncomputable def dirt : List Str → (Str → Option Value) → (Str → Option Value) → Str → Option Value
  | [], _, m => m
  | x :: xs, u, m => fun y => if y = x then u x else dirt xs u m y
theorem dirt_at : ∀ (xs : List Str) (u m : Str → Option Value) (y : Str), dirt xs u m y = if y ∈ xs then u y else m y
  | [], u, m, y => by simp [dirt]
  | x :: xs, u, m, y => by
    unfold dirt
    by_cases h : y = x
    · subst h; simp
    · rw [if_neg h, dirt_at xs u m y]
      by_cases h2 : y ∈ xs
      · rw [if_pos h2, if_pos (List.mem_cons_of_mem _ h2)]
      · rw [if_neg h2, if_neg (by simp [h, h2])]
theorem dirt_of {xs : List Str} {m m' : Str → Option Value} (h : ∀ y, y ∉ xs → m' y = m y) : ∃ u, m' = dirt xs u m := ⟨m', funext fun y => by
  rw [dirt_at]
  by_cases q : y ∈ xs
  · rw [if_pos q]
  · rw [if_neg q, h y q]⟩
theorem AllObj.imp : ∀ {ws : List (Addr × String)} {k k' : List (Addr × Obj) → Prop}, (∀ its, k its → k' its) → AllObj ws k → AllObj ws k'
  | [], _, _, f, h => f _ h
  | _ :: ws, k, k', f, h => fun o e => AllObj.imp (ws := ws) (fun its x => f _ x) (h o e)
theorem UnrPostW.imp {h₀ : Heap} {L : Addr} {s₁ : Shared} {its : List (Addr × Obj)} {r r' : (Str → Option Value) → List (Addr × Obj) → Prop} {Q : Flow → Shared → Prop} (f : ∀ m n, r m n → r' m n) : ∀ {fl : Flow} {s₂ : Shared}, UnrPostW h₀ L s₁ its r Q fl s₂ → UnrPostW h₀ L s₁ its r' Q fl s₂
  | .ret _, _, h => h
  | .brk, _, h => h
  | .next, _, ⟨h', tk, m', news', e, a, b, c, d⟩ => ⟨h', tk, m', news', e, a, b, c, f _ _ d⟩
  | .cont, _, ⟨h', tk, m', news', e, a, b, c, d⟩ => ⟨h', tk, m', news', e, a, b, c, f _ _ d⟩
theorem SubL.trans {a b c : List (Addr × Obj)} (h : SubL a b) (k : SubL b c) : SubL a c := by
  induction a with
  | nil => trivial
  | cons p r ih => exact ⟨k.mem p h.1, ih h.2⟩
theorem SubL.of {a b : List (Addr × Obj)} (h : ∀ p ∈ a, p ∈ b) : SubL a b := by
  induction a with
  | nil => trivial
  | cons p r ih => exact ⟨h p (.head _), ih fun q hq => h q (.tail _ hq)⟩
theorem SubL.app {a b c : List (Addr × Obj)} (h : SubL a c) (k : SubL b c) : SubL (a ++ b) c := SubL.of fun p hp => by
  rcases List.mem_append.mp hp with hp | hp
  · exact h.mem p hp
  · exact k.mem p hp
section
variable {prog : Program} {w : World} {A : Around} {E : Value → Shared → Prop} {s : Shared} {env : Env} {h₀ : Heap} {target : Expr} {body : List Stmt} {Q : Flow → Shared → Prop}
/-- an unrolled loop by an invariant: the turn is walked once -/
theorem ItemsRest.inv {ws : List (Addr × String)} {keep : List (Addr × Obj)} (J : Nat → (Str → Option Value) → List (Addr × Obj) → Prop) {xs : List Itm}
    (turn : ∀ i a m news v h tk, xs[i]? = some a → J i m news → a.Is v h → Fr h₀ env.locals h m → AllObj ws (fun its => News h₀ env.locals h (its ++ news) →
      wpAny (model prog w) A (assign target env v) (fun _ s₂ => wpAny (model prog w) A (execs body env) (UnrPostW h₀ env.locals { s with heap := h, toks := tk } its (fun m' n' => SubL keep n' ∧ ∃ n₁, SubL n₁ n' ∧ J (i + 1) m' n₁) Q) E s₂) E { s with heap := h, toks := tk }))
    (done : ∀ m news h tk, J xs.length m news → Fr h₀ env.locals h m → News h₀ env.locals h news → Q .next { s with heap := h, toks := tk }) :
    ∀ (ys : List Itm) (k : Nat) (m : Str → Option Value) (n₀ news : List (Addr × Obj)), xs.drop k = ys → k ≤ xs.length → J k m n₀ → SubL n₀ news → ItemsRest prog w A E h₀ env target body Q s ws keep ys m news := by
  intro ys
  induction ys with
  | nil =>
    intro k m n₀ news hy hk hJ hs
    have e : k = xs.length := by have := congrArg List.length hy; rw [List.length_drop] at this; simp at this; omega
    subst e
    exact fun h tk F N => done m n₀ h tk hJ F fun p hp => N p (hs.mem p hp)
  | cons a r ih =>
    intro k m n₀ news hy hk hJ hs v h tk hv F
    have hlt : k < xs.length := by have := congrArg List.length hy; rw [List.length_drop] at this; simp at this; omega
    rw [List.drop_eq_getElem_cons hlt] at hy
    injection hy with hy1 hy2
    have ha : xs[k]? = some a := by rw [List.getElem?_eq_getElem hlt, hy1]
    refine AllObj.imp (fun its T N => ?_) (turn k a m n₀ v h tk ha hJ hv F)
    refine wpAny_mono (T fun p hp => N p ?_) (fun _ s₂ h₂ => wpAny_mono h₂ (fun f s₃ h₃ => UnrPostW.imp (fun m' n' h₄ => ?_) h₃) fun _ _ e => e) fun _ _ e => e
    · rcases List.mem_append.mp hp with hp | hp
      · exact List.mem_append_left _ hp
      · exact List.mem_append_right _ (hs.mem p hp)
    · obtain ⟨hk', n₁, hs₁, hJ₁⟩ := h₄
      exact ⟨hk', ih (k + 1) m' n₁ n' hy2 hlt hJ₁ hs₁⟩
/-- after a turn: one cell is another, the names xs are forgotten -/
noncomputable def TurnC (xs : List Str) (C : Addr) (rest : List (Addr × Obj)) (m₀ m' : Str → Option Value) (n' : List (Addr × Obj)) : Prop :=
  ∃ u o cv, m' = dirt xs u m₀ ∧ o.data = .cell cv ∧ n' = (C, o) :: rest
theorem ItemsRest.invC {ws : List (Addr × String)} {keep news : List (Addr × Obj)} {vs : List Value} {m₀ : Str → Option Value} {C : Addr} {o₀ : Obj} {v₀ : Option Value} (xs : List Str) (base : List (Addr × Obj)) (P : Value → Prop)
    (hd : o₀.data = .cell v₀) (hC : (C, o₀) ∈ news) (hk : SubL keep news) (hb : SubL base news) (hv : ∀ v ∈ vs, P v)
    (turn : ∀ v u o cv h tk, P v → o.data = .cell cv → Fr h₀ env.locals h (dirt xs u m₀) → AllObj ws (fun its => News h₀ env.locals h (its ++ (C, o) :: (keep ++ base)) →
      wpAny (model prog w) A (assign target env v) (fun _ s₂ => wpAny (model prog w) A (execs body env) (UnrPostW h₀ env.locals { s with heap := h, toks := tk } its (fun m' n' => SubL keep n' ∧ ∃ n₁, SubL n₁ n' ∧ TurnC xs C (keep ++ base) m₀ m' n₁) Q) E s₂) E { s with heap := h, toks := tk }))
    (done : ∀ u o cv h tk, o.data = .cell cv → Fr h₀ env.locals h (dirt xs u m₀) → News h₀ env.locals h ((C, o) :: (keep ++ base)) → Q .next { s with heap := h, toks := tk }) :
    ItemsRest prog w A E h₀ env target body Q s ws keep (vs.map .val) m₀ news := by
  obtain ⟨u₀, hu₀⟩ := dirt_of (xs := xs) (m := m₀) (m' := m₀) fun _ _ => rfl
  refine ItemsRest.inv (fun _ m' n' => TurnC xs C (keep ++ base) m₀ m' n') (xs := vs.map .val) ?_ ?_ _ 0 m₀ ((C, o₀) :: (keep ++ base)) news rfl (Nat.zero_le _) ⟨u₀, o₀, v₀, hu₀, hd, rfl⟩ ⟨hC, SubL.app hk hb⟩
  · rintro i a m n v h tk hx ⟨u, o, cv, rfl, ho, rfl⟩ hav F
    obtain ⟨v', hv', e⟩ : ∃ v', vs[i]? = some v' ∧ Itm.val v' = a := by
      rw [List.getElem?_map] at hx
      cases q : vs[i]? with
      | none => rw [q] at hx; cases hx
      | some z => rw [q] at hx; exact ⟨z, rfl, Option.some.inj hx⟩
    subst e
    have e : v = v' := hav
    subst e
    exact turn v u o cv h tk (hv v (List.mem_of_getElem? hv')) ho F
  · rintro m n h tk ⟨u, o, cv, rfl, ho, rfl⟩ F N
    exact done u o cv h tk ho F N
theorem UnrEndW.introC {L : Addr} {its keep base all : List (Addr × Obj)} {s₁ : Shared} {h' : Heap} {tk : Nat} {m₀ m' : Str → Option Value} {xs : List Str} {C : Addr} {o : Obj} {cv : Option Value} (F : Fr h₀ L h' m') (N : News h₀ L h' all)
    (hd : o.data = .cell cv) (hC : (C, o) ∈ all) (hI : SubL its all) (hk : SubL keep all) (hb : SubL base all) (off : OffW its ((C, o) :: (keep ++ base))) (hm : ∀ y, y ∉ xs → m' y = m₀ y) :
    UnrEndW h₀ L s₁ its (fun m' n' => SubL keep n' ∧ ∃ n₁, SubL n₁ n' ∧ TurnC xs C (keep ++ base) m₀ m' n₁) { s₁ with heap := h', toks := tk } := by
  obtain ⟨u, e⟩ := dirt_of hm
  exact UnrEndW.intro F N ((C, o) :: (keep ++ base)) hI ⟨hC, SubL.app hk hb⟩ off ⟨SubL.of fun p hp => .tail _ (List.mem_append_left _ hp), _, SubL.of fun p hp => hp, u, o, cv, e, hd, rfl⟩
end
end
section
theorem ksetP36_17 : True := by
  k_with_none
  k_with "mine enter" => (refine' code_defP ?mkb ?mk1 ?mk2 ?mk3 ?mk4 ?mk5 ?mkA ?mkF ?mkK ?mk6 ?mk7 ?mk8 ?mk9 ?mkB ?_ ?mc2 ?mc3 ?mc4 ?mc5; (case mkb => assumption); (case mkA => exact rfl); (case mkF => exact rfl); (case mkK => assumption); (case mk1 => k_asm); (case mk2 => k_asm); (case mk3 => k_asm); (case mk4 => k_asm); (case mk5 => k_asm); (case mk6 => k_is); (case mk7 => k_is); (case mk8 => ktr_room); (case mk9 => exact BindsTo.of_eq rfl); (case mc5 => decide); (case mkB => exact locs rfl); (case mc2 => exact rfl); (case mc3 => exact rfl); (case mc4 => exact rfl); k_whole; intro g'w L'w h'w hH'w FG'w F'w N'w B'w X'w T'w; (try simp only [List.reverse_cons, List.reverse_nil, List.nil_append, List.cons_append, List.length_cons, List.length_nil]); (try dsimp only); (try k_lift B'w); (try k_fold); refine cut ?_; intro qq'w hq'w; refine letA ?_; intro A1'w)
  k_with "mine start" => (w_top off; dsimp only [Ctr]; k_fill; intros; refine wpAny_call ?_; k_dflt (k_extra "mine enter"))
  k_with "mine keeps" => (refine' keeps_of ?mq1 ?mq2 ?mq3 ?mq4 ?mq5; (case mq1 => with_reducible assumption); (case mq2 => with_reducible assumption); (case mq3 => with_reducible assumption); (case mq4 => with_reducible assumption); (case mq5 => lcg_sub))
  k_with "mine off" => (first | exact List.forall_mem_nil _ | (refine List.forall_mem_cons.mpr ⟨?ma, ?mb⟩; (case ma => k_ne); (case mb => k_extra "mine off")))
  k_with "mine fresh" => (refine' fresh_of ?mq1 ?mq2 ?mq3 ?mq4; (case mq1 => with_reducible assumption); (case mq2 => with_reducible assumption); (case mq3 => k_mem); (case mq4 => k_extra "mine off"))
  k_with "mine ret" => ((rename RetOf _ _ _ => hR'w); refine' RetOf.at hR'w ?mkk ?_; (case mkk => k_extra "mine keeps"))
  k_with "mine tup3" => (k_extra "mine ret"; refine' ⟨_, _, _, _, rfl, ?mkf, ?mkg, ?_⟩; (case mkg => exact News.get (by with_reducible assumption) (by k_mem)); (case mkf => k_extra "mine fresh"))
  k_with "mine:execs cons" => (k_here; first | (refine' execs_cutL ?mhs ?mF ?mN ?_; (case mhs => first | (dsimp only; exact rfl) | dsimp only | exact rfl); (case mF => k_asm); (case mN => k_asm); intro m1'w n1'w F1'w N1'w q'w hq'w; try dsimp only at F1'w N1'w) | (refine' execs_cut ?_; intro q'w hq'w))
  k_with "mine:execs cons" => (k_here; (with_reducible show wpAny _ _ _ _ _ (Shared.mk _ _ _ (_ + _) _)); refine' gen_toks ?mhX ?_; (case mhX => omega); intro tk'w htk'w)
  k_with "mine:execs nil" => (k_here; (with_reducible show wpAny _ _ _ _ _ (Shared.mk _ _ _ (_ + _) _)); refine' gen_toks ?mhX ?_; (case mhX => omega); intro tk'w htk'w)
  k_with "mine units" => ((have hcL9 := cLine_is); (try simp +zetaDelta only [units_in1, units_deeper, Around.mark_units, units_caller]); (try dsimp +zetaDelta only [ktrTop]); omega)
  k_with "mine step" => (first | (k_unfold; (try dsimp only)) | (k_end; wrow_close) | walk1 | (dsimp only; walk1) | (leave1; walk_say "STEP leave1"; try dsimp only))
  k_with "mine ne" => (first | with_reducible assumption | (refine Ne.symm ?_; with_reducible assumption) | (refine Nat.ne_of_lt ?_; with_reducible assumption) | (refine Nat.ne_of_gt ?_; with_reducible assumption) | (refine neN ?_; (try dsimp only); (try simp only [ne_eq]); omega))
  k_with "mine:Held" => (refine Held.go (by with_reducible assumption) ?_; try dsimp only)
  k_with "mine offs" => (k_dflt ((rename LCg.Off1 _ _ => hq'w); refine Off1c.of hq'w ?_; clear hq'w; (repeat intro o2'w); refine ⟨?_⟩))
  k_with "mine:FinE" => ((unfold LCg.FinE); intro D'w h'w tk'w F'w N'w o1'w; (try simp only [List.nil_append, List.cons_append] at N'w o1'w); k_extra "mine offs"; (try dsimp only))
  k_with "mine:CompRest" => (with_unfolding_all first
    | (refine LCg.CompRest.succ ?_; intro v'w I'w oI'w C'w oC'w D'w m'w h'w tk'w E'w hv'w hC'w hx'w F'w N'w off'w ne'w; (first | lcg_open hv'w | (obtain ⟨t9'w, hv9'w⟩ := hv'w; subst hv9'w)); refine cut ?_; intro q4'w hq4'w)
    | refine LCg.CompRest.zero ?_)
  k_with "mine:CompRestT" => (with_unfolding_all first
    | (refine LCt.CompRestT.succ ?_; intro v'w I'w oI'w C'w oC'w D'w m'w h'w tk'w E'w hv'w hC'w hx'w F'w N'w off'w ne'w; (first | lcg_open hv'w | (obtain ⟨t9'w, hv9'w⟩ := hv'w; subst hv9'w)))
    | refine LCt.CompRestT.zero ?_)
  k_with "mine:CompEnd" => (refine LCg.CompEnd.intro (by k_asm) (by k_asm) _ (fun _ hp => hp) (by with_reducible assumption) (by lcg_src) ?_)
  k_with "mine arith" => (first | exact Nat.succ_pos _ | with_reducible assumption | (with_reducible exact ar_r0 (by assumption)) | (with_reducible exact ar_r2 (by assumption) (by decide)) | (with_reducible exact ar_r1 (by assumption) (by decide)) | (with_reducible exact ar_absC (by assumption) (by decide)) | (with_reducible exact ar_abs (by assumption) (by assumption) (by decide)) | (with_reducible exact ar_absN (by assumption) (by decide)) | (with_reducible exact ar_absM) | (with_reducible exact ar_absL (by assumption) (by decide)) | (with_reducible exact ar_cle (by assumption) (by decide)) | (with_reducible exact Int.natCast_nonneg _) | (with_reducible exact ar_min0) | (with_reducible exact ar_min1 (by decide)) | (with_reducible exact ar_sc (by assumption) (by decide)) | (with_reducible exact Nat.le_trans (by assumption) (by decide)) | decide)
  k_with "mine mem" => (first | exact memk 0 rfl | exact memk 1 rfl | exact memk 2 rfl | exact memk 3 rfl | exact memk 4 rfl | exact memk 5 rfl | exact memk 6 rfl | exact memk 7 rfl | exact memk 8 rfl | exact memk 9 rfl | exact memk 10 rfl | exact memk 11 rfl | exact memk 12 rfl | exact memk 13 rfl | exact memk 14 rfl | exact memk 15 rfl | exact memk 16 rfl | exact memk 17 rfl | exact memk 18 rfl | exact memk 19 rfl)
  k_with "mine same" => ((repeat (rename (¬ _) ∧ _ => hz'w; have hz1'w := And.left hz'w; have hz2'w := And.right hz'w; clear hz'w)); (repeat (first | with_reducible rfl | (refine (if_neg (by assumption)).trans ?_))))
  k_with "mine use" => ((case mk1 => k_asm); (case mk2 => k_asm); (case mk3 => k_asm); (case mk4 => k_asm); (case mk5 => k_asm); (case mk6 => exact rfl); (case mk7 => lcg_sub); (case mk8 => ktr_room); (case mk9 => units_room))
  k_with "mine:subscriptTail Name Constant ref int" => (k_here; (with_reducible show wpAny _ _ (subscriptTail _ _ (Value.ref _) (Value.int _ _)) _ _ _); kim_at)
  k_with "mine:subscriptTail Name Constant ref int" => (k_here; (with_reducible show wpAny _ _ (subscriptTail _ _ (Value.ref _) (Value.int _ _)) _ _ _); (with_unfolding_all refine' item_litK ?mk1 ?mk2 ?mk3 ?mk4 ?_ ?mk6; (case mk1 => is_list); (case mk2 => decide); (case mk3 => decide); (case mk4 => rfl); (case mk6 => with_unfolding_all rfl); k_whole))
  k_with "mine:binaryOp Div int int" => (k_here; (with_reducible refine' divI_r ?me ?mk1 ?mk2 ?mk3 ?_); (case me => first | assumption | exact rfl); (case mk1 => k_dflt rfl); (case mk2 => first | decide | omega); (case mk3 => omega); intro t'w)
  k_with "mine:binaryOp Mult float int" => (k_here; (with_reducible refine' mulFI_r ?me ?mk3 ?_); (case me => first | assumption | exact rfl); (case mk3 => omega); intro t'w)
  k_with "mine:binaryOp Mult int float" => (k_here; (with_reducible refine' mulIF_r ?me ?mk3 ?_); (case me => first | assumption | exact rfl); (case mk3 => omega); intro t'w)
  k_with "mine:call builtin:round" => (k_here; (with_reducible show wpAny _ _ (call (Value.builtin "round") [Value.float _ _]) _ _ _); (with_reducible refine' round_r ?mhf ?me ?mkh ?_); (case mhf => assumption); (case me => first | assumption | exact rfl); (case mkh => k_dflt rfl); intro t'w)
  k_with "mine:call builtin:max" => (k_here; first
    | ((with_reducible show wpAny _ _ (call (Value.builtin "max") [Value.ref _]) _ _ _); (with_reducible refine' max_l3 ?me ?mkh ?mk1 ?mk2 ?mk3 ?_); (case mk1 => k_asm); (case mk2 => k_asm); (case mk3 => k_dflt k_mem); (case me => assumption); (case mkh => k_dflt rfl); intro h'w tk'w t'w F'w N'w; (try k_sweep))
    | ((with_reducible show wpAny _ _ (call (Value.builtin "max") [Value.int _ _, Value.int _ _]) _ _ _); (with_reducible refine' max2_r ?me ?mkh ?mk1 ?mk2 ?_); (case mk1 => k_asm); (case mk2 => k_asm); (case me => first | assumption | exact rfl); (case mkh => k_dflt rfl); intro h'w tk'w t'w F'w N'w; (try k_sweep)))
  k_with "mine:call builtin:min" => (k_here; first
    | ((with_reducible show wpAny _ _ (call (Value.builtin "min") [Value.ref _]) _ _ _); (with_reducible refine' min_l3 ?me ?mkh ?mk1 ?mk2 ?mk3 ?_); (case mk1 => k_asm); (case mk2 => k_asm); (case mk3 => k_dflt k_mem); (case me => assumption); (case mkh => k_dflt rfl); intro h'w tk'w t'w F'w N'w; (try k_sweep))
    | ((with_reducible show wpAny _ _ (call (Value.builtin "min") [Value.int _ _, Value.int _ _]) _ _ _); (with_reducible refine' min2_r ?me ?mkh ?mk1 ?mk2 ?_); (case mk1 => k_asm); (case mk2 => k_asm); (case me => first | assumption | exact rfl); (case mkh => k_dflt rfl); intro h'w tk'w t'w F'w N'w; (try k_sweep)))
  k_with "mine:ite" => (k_here; first
    | (with_reducible refine ite_neg (by first | assumption | exact Bool.eq_false_iff.mp (by assumption) | (simp only [decide_true, decide_false, Bool.not_true, Bool.not_false, eq_self, Bool.false_eq_true, not_false_eq_true]; done) | ((try simp only [beq_iff_eq, bne_iff_ne, decide_eq_true_eq, ne_eq, Bool.not_eq_true', decide_eq_false_iff_not, Int.not_lt, Int.not_le]); omega)) ?_)
    | (with_reducible refine ite_pos (by first | assumption | (simp only [decide_true, decide_false, Bool.not_true, Bool.not_false, eq_self, Bool.false_eq_true, not_false_eq_true]; done) | ((try simp only [beq_iff_eq, bne_iff_ne, decide_eq_true_eq, ne_eq, Bool.not_eq_true', decide_eq_false_iff_not, Int.not_lt, Int.not_le]); omega)) ?_))
  k_with "mine:compareOp NotIn" => (k_here; (with_reducible show wpAny _ _ (compareOp CmpOp.NotIn (Value.int _ _) (Value.ref _)) _ _ _); (with_reducible refine' notIn_range ?mk1 ?mk2 ?mk3 ?_); (case mk1 => k_dflt assumption); (case mk2 => omega); (case mk3 => omega))
  k_with "mine:compareOp NotIn int ref" => (walk_at "compareOp NotIn")
  k_with "mine:binaryOp FloorDiv int int" => (k_here; (with_reducible refine' fdiv_r ?me ?mk2 ?mk3 ?_); (case me => first | assumption | exact rfl); (case mk2 => first | decide | omega); (case mk3 => first | decide | omega); intro t'w)
  k_with "mine:binaryOp Mod int int" => (k_here; (with_reducible refine' fmod_r ?me ?mk2 ?_); (case me => first | assumption | exact rfl); (case mk2 => first | decide | omega); intro t'w)
  k_with "mine enterC" => (refine' code_defPC ?mk1 ?mk2 ?mk3 ?mk4 ?mk5 ?mkA ?mkF ?mkK ?mk6 ?mk7 ?mk8 ?mk9 ?mkB ?mkD ?_ ?mc2 ?mc3 ?mc4; (case mkA => exact rfl); (case mkF => exact rfl); (case mkK => assumption); (case mk1 => k_asm); (case mk2 => k_asm); (case mk3 => k_asm); (case mk4 => k_asm); (case mk5 => k_asm); (case mk6 => k_is); (case mk7 => k_is); (case mk8 => ktr_room); (case mk9 => exact BindsTo.of_eq rfl); (case mkB => exact rfl); (case mkD => decide +kernel); (case mc2 => exact rfl); (case mc3 => exact rfl); (case mc4 => exact rfl); k_whole; intro g'w L'w h'w tk'w cells'w hH'w FG'w F'w N'w Y'w B'w X'w T'w l1'w; (try k_lt l1'w); k_cells Y'w; (try simp only [List.cons_append, List.nil_append] at N'w); (try dsimp only); (try k_lift B'w); (try k_fold); refine cut ?_; intro qq'w hq'w; refine letA ?_; intro A1'w)
  k_with "mine startC" => (dsimp only [Ctr]; k_fill; intros; refine wpAny_call ?_; k_dflt (k_extra "mine enterC"))
  k_with "mine:CTup" => (k_here; k_dflt (refine CTup.at (by rfl) (by k_asm) (by k_asm) (by k_mem) (by exact Nat.le_of_ble_eq_true rfl) ?_; intro g'w; lcg_lit))
  k_with "mine:CTupT" => (k_here; k_dflt (refine CTupT.at (by rfl) (by k_asm) (by k_asm) (by k_mem) (by exact Nat.le_of_ble_eq_true rfl) ?_; intro g'w; lct_lit))
  k_with "mine:pyIter ref" => (k_here; (with_reducible show wpAny _ _ (pyIter (Value.ref _)) (fun it s₂ => TurnsAt _ _ _ _ _ _ _ _ _ it s₂) _ _); ktu_seq)
  k_with "mine updF" => (first | (refine' UpdF.head ?ma; (case ma => k_extra "mine off")) | (refine' UpdF.tail ?ma ?mb; (case ma => k_ne); (case mb => k_extra "mine updF")))
  k_with "mine:storeName" => (k_here; k_dflt (first
    | (refine' storeX_L ?mF ?mN ?_ ?ma ?mb; (case ma => rfl); (case mb => rfl); (case mF => k_asm); (case mN => k_asm); k_whole; intro h'w F'w N'w; (try k_sweep))
    | (refine' storeX_C ?mF ?mN ?mc ?mU ?md ?_ ?ma ?mb; (case ma => rfl); (case mb => rfl); (case mF => k_asm); (case mN => k_asm); (case mc => rfl); (case mU => k_extra "mine updF"); (case md => k_asm); k_whole; intro h'w o'w F'w N'w d'w; (try dsimp only at N'w); (try k_sweep))))
  k_with "mine:CompSrc" => (k_here; k_dflt (refine LCg.CompSrc.ledger (by rfl) (by k_asm) (by k_asm) (by k_mem) (by exact Nat.le_of_ble_eq_true rfl) ?_; intro g'w; lcg_lit))
  k_with "mine enterC" => (refine' code_defPC2 ?mkb ?mk1 ?mk2 ?mk3 ?mk4 ?mk5 ?mkA ?mkF ?mkK ?mk6 ?mk7 ?mk8 ?mk9 ?mkB ?mkD ?mkE ?mkG ?_ ?mc2 ?mc3 ?mc4; (case mkb => assumption); (case mkA => exact rfl); (case mkF => exact rfl); (case mkK => assumption); (case mk1 => k_asm); (case mk2 => k_asm); (case mk3 => k_asm); (case mk4 => k_asm); (case mk5 => k_asm); (case mk6 => k_is); (case mk7 => k_is); (case mk8 => ktr_room); (case mk9 => exact BindsTo.of_eq rfl); (case mkB => exact rfl); (case mkD => decide +kernel); (case mkE => intro _; rfl); (case mkG => intro _; rfl); (case mc2 => exact rfl); (case mc3 => exact rfl); (case mc4 => exact rfl); k_whole; intro g'w L'w h'w tk'w cells'w hH'w FG'w F'w N'w Y'w B'w X'w T'w l1'w; (try k_lt l1'w); k_cells Y'w; (try simp only [List.cons_append, List.nil_append] at N'w); (try dsimp only); (try k_lift B'w); (try k_fold); refine cut ?_; intro qq'w hq'w; refine letA ?_; intro A1'w)
  trivial
theorem ksetP36_15 : True := by
  k_with "mine:eval ListComp" => (k_here; first
    | ((with_reducible show wpAny _ _ (eval (Expr.ListComp _ [{ target := Expr.Name _ _, iter := Expr.Call _ _ _ _, ifs := [], is_async := 0 }] _ _) _) _ _ _); k_dflt (refine comp_tup (F₀ := by k_asm) (by with_unfolding_all rfl) (by decide) (by rfl) (by decide) (by rfl) ?_))
    | ((with_reducible show wpAny _ _ (eval (Expr.ListComp _ [{ target := Expr.Name _ _, iter := Expr.Name (Str.ofString "told") _, ifs := [], is_async := 0 }] _ _) _) _ _ _); k_dflt (refine comp_tup (F₀ := by k_asm) (by with_unfolding_all rfl) (by decide) (by rfl) (by decide) (by rfl) ?_))
    | ((with_reducible show wpAny _ _ (eval (Expr.ListComp _ [{ target := Expr.Name _ _, iter := Expr.Name (Str.ofString "told") _, ifs := [_], is_async := 0 }] _ _) _) _ _ _); k_dflt (refine comp_tupT (F₀ := by k_asm) (by with_unfolding_all rfl) (by decide) (by rfl) (by decide) (by rfl) ?_)))
  k_with "mine:call ref" => (k_here; first
    | ((with_reducible show wpAny _ _ (call (Value.ref 55) _) _ _ _); k_dflt (refine' use_tup3 (yiq_c _ _ _ _ _ _ _ _ _ _) ?mk1 ?mk2 ?mk3 ?mk4 ?mk5 ?mk6 ?mk7 ?mk8 ?mk9 ?_; k_extra "mine use"); intro D'w u1'w u2'w u3'w h'w tk'w o9'w F'w N'w o1'w hP'w; k_extra "mine offs")
    | ((with_reducible show wpAny _ _ (call (Value.ref 62) _) _ _ _); k_dflt (refine' use_tup3 (rgb_c _ _ _ _ _ _ _ _ _ _) ?mk1 ?mk2 ?mk3 ?mk4 ?mk5 ?mk6 ?mk7 ?mk8 ?mk9 ?_; k_extra "mine use"); intro D'w u1'w u2'w u3'w h'w tk'w o9'w F'w N'w o1'w hP'w; k_extra "mine offs")
    | ((with_reducible show wpAny _ _ (call (Value.ref 88) _) _ _ _); k_dflt (refine' use_bool (near3_c _ _ _ _ _ _ _ _ _ _ _ _ _ _ _ _ _ _ _ _ ?mpa ?mpb ?mpc) ?mk1 ?mk2 ?mk3 ?mk4 ?mk5 ?mk6 ?mk7 ?mk8 ?mk9 ?_; k_extra "mine use"; (case mpa => assumption); (case mpb => assumption); (case mpc => assumption)); intro h'w tk'w F'w N'w))
  trivial

/-- a step of the light -/
noncomputable def PMore (v : Value) : Prop := ∃ mo t, v = .int mo t ∧ In (divI mo 16) (mo * 28147497671065600000000000000000000) (mo * 28147497671065600000000000000000000) ∧ -4 ≤ mo ∧ mo ≤ 12
theorem pmore_all {t u v : Tok} : ∀ x ∈ [Value.int 0 t, Value.int 12 u, Value.int (-4) v], PMore x := by
  intro x hx
  rcases List.mem_cons.mp hx with rfl | hx
  · exact ⟨0, t, rfl, six_in (by decide) (by decide), by decide, by decide⟩
  rcases List.mem_cons.mp hx with rfl | hx
  · exact ⟨12, u, rfl, six_in (by decide) (by decide), by decide, by decide⟩
  rcases List.mem_cons.mp hx with rfl | hx
  · exact ⟨-4, v, rfl, m4_in, by decide, by decide⟩
  cases hx
theorem ksetP36_16 : True := by
  k_with "mine:UnrEndW" => (refine' UnrEndW.introC ?mF ?mN ?mhd ?mhC ?mhI ?mhk ?mhb ?moff ?mhm; (case mF => k_asm); (case mN => k_asm); (case mhd => with_reducible assumption); (case mhC => k_mem); (case mhI => k_subL); (case mhk => k_subL); (case mhb => k_subL); (case moff => (simp only [List.cons_append, List.nil_append]; ktu_offL)); (case mhm => (intro y hy; (simp only [List.mem_cons, List.not_mem_nil, or_false, not_or] at hy); first | (k_extra "mine same"; done) | rfl | (simp +zetaDelta [hy]; done))))
  trivial

theorem light_c (w mean mg mb) (l1 l2 : Addr) (n1 n2 : Nat) (a b c : Int) (L0 L1 L2 : UInt64) (t1 t2 t3 t4 t5 t6 : Tok)
    (ha0 : 0 ≤ a) (ha : a ≤ 16) (hb0 : 0 ≤ b) (hb : b ≤ 16) (hc0 : 0 ≤ c) (hc : c ≤ 16)
    (Y : In L0 ((8444249301319680000000000000000000 * a + 16607023625928704000000000000000000 * b + 3096224743817216000000000000000000 * c) - 96000000000000000000000) ((8444249301319680000000000000000000 * a + 16607023625928704000000000000000000 * b + 3096224743817216000000000000000000 * c) + 96000000000000000000000)) (I : In L1 ((16860351104968294400000000000000000 * a + -7805301104186490880000000000000000 * b + -9055050000781803520000000000000000 * c) - 208000000000000000000000) ((16860351104968294400000000000000000 * a + -7805301104186490880000000000000000 * b + -9055050000781803520000000000000000 * c) + 208000000000000000000000)) (Q : In L2 ((5995417003936972800000000000000000 * a + -14780251027076546560000000000000000 * b + 8784834023139573760000000000000000 * c) - 208000000000000000000000) ((5995417003936972800000000000000000 * a + -14780251027076546560000000000000000 * b + 8784834023139573760000000000000000 * c) + 208000000000000000000000)) :
    Ctr w mean mg mb 93 [.ref l1, .ref l2] [(l1, listOf #[.int a t1, .int b t2, .int c t3] n1), (l2, listOf #[.float L0 t4, .float L1 t5, .float L2 t6] n2)] 3 (PBool true) := by
  have ia := six_in ha0 ha
  have ib := six_in hb0 hb
  have ic := six_in hc0 hc
  obtain ⟨k0, k1, k2⟩ := near3_of ha0 ha hb0 hb hc0 hc ia ib ic
  clear ia ib ic
  generalize er : divI a 16 = r at *
  generalize eg : divI b 16 = g at *
  generalize ebl : divI c 16 = bl at *
  generalize e0 : Float64.mul (Float64.ofInt 160000) (yiqY r g bl) = p0 at *
  generalize e1 : Float64.mul (Float64.ofInt 160000) (yiqI r bl (yiqY r g bl)) = p1 at *
  generalize e2 : Float64.mul (Float64.ofInt 160000) (yiqQ r bl (yiqY r g bl)) = p2 at *
  have hM : Mp (fun y => if y = Str.ofString "lights" then some (.ref l2) else if y = Str.ofString "now" then some (.ref l1) else none) (fun _ => none) := trivial
  k_extra "mine startC"
  iterate 185 (first | ((with_reducible show ItemsRest _ _ _ _ _ _ _ _ _ _ _ _ _ _ _); skip) | k_extra "mine step" | skip)
  with_reducible refine' ItemsRest.invC [Str.ofString "told"] [(l1, listOf #[.int a t1, .int b t2, .int c t3] n1), (l2, listOf #[.float L0 t4, .float L1 t5, .float L2 t6] n2)] PMore ?hd ?hC ?hk ?hb ?hv ?turn ?done
  case hd => with_reducible assumption
  case hC => k_mem
  case hk => k_subL
  case hb => k_subL
  case hv => exact pmore_all
  case turn =>
    intro v u o cv h tk hv ho F
    refine named ?_
    intro Gt kt
    obtain ⟨mo, t, rfl, D, hm1, hm2⟩ := hv
    obtain ⟨pR, pG, pB⟩ := rgb_in ha0 ha hb0 hb hc0 hc hm1 hm2 D Y I Q
    have lo0 := clip_lo pR.1
    have lo1 := clip_lo pG.1
    have lo2 := clip_lo pB.1
    have hi0 := clip_hi pR.1
    have hi1 := clip_hi pG.1
    have hi2 := clip_hi pB.1
    have w0 := told_near pR (by omega) (by omega)
    have w1 := told_near pG (by omega) (by omega)
    have w2 := told_near pB (by omega) (by omega)
    clear pR pG pB D Y I Q
    generalize ed : divI mo 16 = d at *
    refine kt ?_
    clear kt
    simp only [dirt] at F
    ktu_objs
    rename News _ _ _ _ => N
    dsimp only [envOfC] at F N
    (try k_fold)
    refine cut2 ?_
    intro q3 hq3
    k_steps
  case done =>
    intro u o cv h tk ho F N
    simp only [dirt] at F
    (try simp only [List.cons_append, List.nil_append] at N)
    dsimp only [envOfC] at F N
    (try dsimp only)
    k_steps
    k_extra "mine ret"
    rfl
end
section
/-- after a turn: the int name x holds sp, the names xs are forgotten, the ledger stands -/
noncomputable def TurnE (x : Str) (xs : List Str) (news : List (Addr × Obj)) (R : Int → Prop) (m₀ m' : Str → Option Value) (n' : List (Addr × Obj)) : Prop :=
  ∃ sp t u, R sp ∧ m' = (fun y => if y = x then some (.int sp t) else dirt xs u m₀ y) ∧ n' = news
section
variable {prog : Program} {w : World} {A : Around} {E : Value → Shared → Prop} {s : Shared} {env : Env} {h₀ : Heap} {target : Expr} {body : List Stmt} {Q : Flow → Shared → Prop}
theorem dirtE {x : Str} {xs : List Str} {m m' : Str → Option Value} {sp : Int} {t : Tok} (hx : m' x = some (.int sp t)) (h : ∀ y, y ∉ x :: xs → m' y = m y) : ∃ u, m' = fun y => if y = x then some (.int sp t) else dirt xs u m y :=
  ⟨m', funext fun y => by
    by_cases q : y = x
    · subst q; rw [if_pos rfl, hx]
    · rw [if_neg q, dirt_at]
      by_cases q2 : y ∈ xs
      · rw [if_pos q2]
      · rw [if_neg q2]; exact h y (by simp [q, q2])⟩
theorem ItemsRest.invE {ws : List (Addr × String)} {keep news : List (Addr × Obj)} {vs : List Value} {m₀ : Str → Option Value} (x : Str) (xs : List Str) (R : Nat → Int → Prop) (base : List (Addr × Obj))
    (hs : SubL base news) (h0 : ∃ sp t, m₀ x = some (.int sp t) ∧ R 0 sp)
    (turn : ∀ i v sp t u h tk, vs[i]? = some v → R i sp → Fr h₀ env.locals h (fun y => if y = x then some (.int sp t) else dirt xs u m₀ y) → AllObj ws (fun its => News h₀ env.locals h (its ++ base) →
      wpAny (model prog w) A (assign target env v) (fun _ s₂ => wpAny (model prog w) A (execs body env) (UnrPostW h₀ env.locals { s with heap := h, toks := tk } its (fun m' n' => SubL keep n' ∧ ∃ n₁, SubL n₁ n' ∧ TurnE x xs base (R (i + 1)) m₀ m' n₁) Q) E s₂) E { s with heap := h, toks := tk }))
    (done : ∀ sp t u h tk, R vs.length sp → Fr h₀ env.locals h (fun y => if y = x then some (.int sp t) else dirt xs u m₀ y) → News h₀ env.locals h base → Q .next { s with heap := h, toks := tk }) :
    ItemsRest prog w A E h₀ env target body Q s ws keep (vs.map .val) m₀ news := by
  obtain ⟨sp, t, hx, hR⟩ := h0
  obtain ⟨u, hu⟩ := dirtE (xs := xs) (m := m₀) hx fun _ _ => rfl
  refine ItemsRest.inv (fun i m' n' => TurnE x xs base (R i) m₀ m' n') (xs := vs.map .val) ?_ ?_ _ 0 m₀ base news rfl (Nat.zero_le _) ⟨sp, t, u, hR, hu, rfl⟩ hs
  · rintro i a m n v h tk hx ⟨sp, t, u, hR, rfl, rfl⟩ hav F
    obtain ⟨v', hv', e⟩ : ∃ v', vs[i]? = some v' ∧ Itm.val v' = a := by
      rw [List.getElem?_map] at hx
      cases q : vs[i]? with
      | none => rw [q] at hx; cases hx
      | some z => rw [q] at hx; exact ⟨z, rfl, Option.some.inj hx⟩
    subst e
    have e : v = v' := hav
    subst e
    exact turn i v sp t u h tk hv' hR F
  · rintro m n h tk ⟨sp, t, u, hR, rfl, rfl⟩ F N
    rw [List.length_map] at hR
    exact done sp t u h tk hR F N
theorem UnrEndW.introE {L : Addr} {its keep base all : List (Addr × Obj)} {s₁ : Shared} {h' : Heap} {tk : Nat} {m₀ m' : Str → Option Value} {x : Str} {xs : List Str} {R : Int → Prop} {sp : Int} {t : Tok} (F : Fr h₀ L h' m') (N : News h₀ L h' all)
    (hx : m' x = some (.int sp t)) (hR : R sp) (hI : SubL its all) (hb : SubL base all) (hk : SubL keep base) (off : OffW its base) (hm : ∀ y, y ∉ x :: xs → m' y = m₀ y) :
    UnrEndW h₀ L s₁ its (fun m' n' => SubL keep n' ∧ ∃ n₁, SubL n₁ n' ∧ TurnE x xs base R m₀ m' n₁) { s₁ with heap := h', toks := tk } := by
  obtain ⟨u, e⟩ := dirtE hx hm
  exact UnrEndW.intro F N base hI hb off ⟨hk, _, SubL.of fun p hp => hp, sp, t, u, hR, e, rfl⟩
end
section
variable {prog : Program} {w : World} {A : Around} {E : Value → Shared → Prop} {s : Shared} {env : Env} {h₀ : Heap} {target : Expr} {body : List Stmt} {Q : Flow → Shared → Prop}
/-- the same; the ledger is just the loop's own -/
theorem ItemsRest.invK {ws : List (Addr × String)} {keep news : List (Addr × Obj)} {vs : List Value} {m₀ : Str → Option Value} (x : Str) (xs : List Str) (R : Nat → Int → Prop)
    (hs : SubL keep news) (h0 : ∃ sp t, m₀ x = some (.int sp t) ∧ R 0 sp)
    (turn : ∀ i v sp t u h tk, vs[i]? = some v → R i sp → Fr h₀ env.locals h (fun y => if y = x then some (.int sp t) else dirt xs u m₀ y) → AllObj ws (fun its => News h₀ env.locals h (its ++ keep) →
      wpAny (model prog w) A (assign target env v) (fun _ s₂ => wpAny (model prog w) A (execs body env) (UnrPostW h₀ env.locals { s with heap := h, toks := tk } its (fun m' n' => SubL keep n' ∧ ∃ n₁, SubL n₁ n' ∧ TurnE x xs keep (R (i + 1)) m₀ m' n₁) Q) E s₂) E { s with heap := h, toks := tk }))
    (done : ∀ sp t u h tk, R vs.length sp → Fr h₀ env.locals h (fun y => if y = x then some (.int sp t) else dirt xs u m₀ y) → News h₀ env.locals h keep → Q .next { s with heap := h, toks := tk }) :
    ItemsRest prog w A E h₀ env target body Q s ws keep (vs.map .val) m₀ news := ItemsRest.invE x xs R keep hs h0 turn done
theorem UnrEndW.introK {L : Addr} {its keep all : List (Addr × Obj)} {s₁ : Shared} {h' : Heap} {tk : Nat} {m₀ m' : Str → Option Value} {x : Str} {xs : List Str} {R : Int → Prop} {sp : Int} {t : Tok} (F : Fr h₀ L h' m') (N : News h₀ L h' all)
    (hx : m' x = some (.int sp t)) (hR : R sp) (hI : SubL its all) (hk : SubL keep all) (off : OffW its keep) (hm : ∀ y, y ∉ x :: xs → m' y = m₀ y) :
    UnrEndW h₀ L s₁ its (fun m' n' => SubL keep n' ∧ ∃ n₁, SubL n₁ n' ∧ TurnE x xs keep R m₀ m' n₁) { s₁ with heap := h', toks := tk } :=
  UnrEndW.introE F N hx hR hI hk (SubL.of fun _ h => h) off hm
end
open Builtin.Str in
noncomputable def findV (x y : Str) (i j : Int) : Int := match occurrences x y (fromIndex x.length i) (min (fromIndex x.length j) x.length) 1 with | k :: _ => (k : Int) | [] => -1
open Builtin Builtin.Str in
theorem gives_find4 (x y : Str) (i j : Int) (t u v v' : Tok) : Gives («str.find» ⟨[.str x t, .str y u, .int i v, .int j v'], []⟩) (.int (findV x y i j)) := by
  show Gives (match occurrences x y (fromIndex x.length i) (min (fromIndex x.length j) x.length) 1 with | k :: _ => retInt k | [] => (do rule "str.find.not-found"; retInt (-1))) _
  unfold findV
  cases occurrences x y (fromIndex x.length i) (min (fromIndex x.length j) x.length) 1 with
  | nil => exact .rule (.of_eq rfl)
  | cons k _ => exact .of_eq rfl
theorem find_r {prog : Program} {w : World} {A : Around} {E : Value → Shared → Prop} {s : Shared} {Q : Value → Shared → Prop} {x y : Str} {t u v v' : Tok} {i j k : Int} (e : findV x y i j = k) (h : ∀ t tk, Q (.int k t) { s with toks := tk }) :
    wpAny (model prog w) A (call (.builtin "str.find") [.str x t, .str y u, .int i v, .int j v']) Q E s :=
  call_gives F.slot_str_find (typeIs_str _ _ _) F.entry_str_find (F.args_str_find_4 _ _ _ _) (gives_find4 x y i j t u v v') (by subst e; exact h _ _)
noncomputable def mkS (l : List Nat) : Str := ⟨l.toArray⟩
noncomputable def rowS (n : Nat) : Str := mkS (List.replicate n 46 ++ [97])
noncomputable def repS (n : Nat) : Str := mkS ((List.replicate n [98, 46, 46, 46]).flatten ++ [97])
noncomputable def wantS (n : Nat) : Str := mkS ([46, 46, 46] ++ (List.replicate n [98, 46, 46, 46]).flatten ++ [97])
noncomputable def gotS (n : Nat) : Str := mkS (List.replicate n 98 ++ [97])
open Builtin.Str in
noncomputable def ellB (n : Nat) : Bool :=
  (!(occurrences (wantS n) (Str.ofString "...") 0 (wantS n).length 1).isEmpty) &&
  (Txt.split (wantS n) (Str.ofString "...") == mkS [] :: (List.replicate n (mkS [98]) ++ [mkS [97]])) &&
  (Txt.replace (rowS n) (Str.ofString ".") (Str.ofString "b...") == repS n) &&
  (Txt.replace (rowS n) (Str.ofString ".") (Str.ofString "b") == gotS n) &&
  (Str.ofString "..." ++ repS n == wantS n) &&
  (decide (0 + (mkS [97]).length ≤ (gotS n).length) && subAt (gotS n) (mkS [97]) ((gotS n).length - (mkS [97]).length)) &&
  ((gotS n).length == n + 1) &&
  ((List.range 13).all fun i => occurrences (gotS n) (mkS [98]) i n 1 == if i < n then [i] else []) &&
  (occurrences (gotS n) (mkS []) 0 n 1 == [0])
theorem ell_all : (List.range 13).all ellB = true := by decide +kernel
end
section
theorem ksetP38_21 : True := by
  k_with_none
  k_with "mine enter" => (refine' code_defP ?mkb ?mk1 ?mk2 ?mk3 ?mk4 ?mk5 ?mkA ?mkF ?mkK ?mk6 ?mk7 ?mk8 ?mk9 ?mkB ?_ ?mc2 ?mc3 ?mc4 ?mc5; (case mkb => assumption); (case mkA => exact rfl); (case mkF => exact rfl); (case mkK => assumption); (case mk1 => k_asm); (case mk2 => k_asm); (case mk3 => k_asm); (case mk4 => k_asm); (case mk5 => k_asm); (case mk6 => k_is); (case mk7 => k_is); (case mk8 => ktr_room); (case mk9 => exact BindsTo.of_eq rfl); (case mc5 => decide); (case mkB => exact locs rfl); (case mc2 => exact rfl); (case mc3 => exact rfl); (case mc4 => exact rfl); k_whole; intro g'w L'w h'w hH'w FG'w F'w N'w B'w X'w T'w; (try simp only [List.reverse_cons, List.reverse_nil, List.nil_append, List.cons_append, List.length_cons, List.length_nil]); (try dsimp only); (try k_lift B'w); (try k_fold); refine cut ?_; intro qq'w hq'w; refine letA ?_; intro A1'w)
  k_with "mine start" => (w_top off; dsimp only [Ctr]; k_fill; intros; refine wpAny_call ?_; k_dflt (k_extra "mine enter"))
  k_with "mine keeps" => (refine' keeps_of ?mq1 ?mq2 ?mq3 ?mq4 ?mq5; (case mq1 => with_reducible assumption); (case mq2 => with_reducible assumption); (case mq3 => with_reducible assumption); (case mq4 => with_reducible assumption); (case mq5 => lcg_sub))
  k_with "mine off" => (first | exact List.forall_mem_nil _ | (refine List.forall_mem_cons.mpr ⟨?ma, ?mb⟩; (case ma => k_ne); (case mb => k_extra "mine off")))
  k_with "mine fresh" => (refine' fresh_of ?mq1 ?mq2 ?mq3 ?mq4; (case mq1 => with_reducible assumption); (case mq2 => with_reducible assumption); (case mq3 => k_mem); (case mq4 => k_extra "mine off"))
  k_with "mine ret" => ((rename RetOf _ _ _ => hR'w); refine' RetOf.at hR'w ?mkk ?_; (case mkk => k_extra "mine keeps"))
  k_with "mine tup3" => (k_extra "mine ret"; refine' ⟨_, _, _, _, rfl, ?mkf, ?mkg, ?_⟩; (case mkg => exact News.get (by with_reducible assumption) (by k_mem)); (case mkf => k_extra "mine fresh"))
  k_with "mine:execs cons" => (k_here; first | (refine' execs_cutL ?mhs ?mF ?mN ?_; (case mhs => first | (dsimp only; exact rfl) | dsimp only | exact rfl); (case mF => k_asm); (case mN => k_asm); intro m1'w n1'w F1'w N1'w q'w hq'w; try dsimp only at F1'w N1'w) | (refine' execs_cut ?_; intro q'w hq'w))
  k_with "mine:execs cons" => (k_here; (with_reducible show wpAny _ _ _ _ _ (Shared.mk _ _ _ (_ + _) _)); refine' gen_toks ?mhX ?_; (case mhX => omega); intro tk'w htk'w)
  k_with "mine:execs nil" => (k_here; (with_reducible show wpAny _ _ _ _ _ (Shared.mk _ _ _ (_ + _) _)); refine' gen_toks ?mhX ?_; (case mhX => omega); intro tk'w htk'w)
  k_with "mine units" => ((have hcL9 := cLine_is); (try simp +zetaDelta only [units_in1, units_deeper, Around.mark_units, units_caller]); (try dsimp +zetaDelta only [ktrTop]); omega)
  k_with "mine step" => (first | (k_unfold; (try dsimp only)) | (k_end; wrow_close) | walk1 | (dsimp only; walk1) | (leave1; walk_say "STEP leave1"; try dsimp only))
  k_with "mine ne" => (first | with_reducible assumption | (refine Ne.symm ?_; with_reducible assumption) | (refine Nat.ne_of_lt ?_; with_reducible assumption) | (refine Nat.ne_of_gt ?_; with_reducible assumption) | (refine neN ?_; (try dsimp only); (try simp only [ne_eq]); omega))
  k_with "mine:Held" => (refine Held.go (by with_reducible assumption) ?_; try dsimp only)
  k_with "mine offs" => (k_dflt ((rename LCg.Off1 _ _ => hq'w); refine Off1c.of hq'w ?_; clear hq'w; (repeat intro o2'w); refine ⟨?_⟩))
  k_with "mine:FinE" => ((unfold LCg.FinE); intro D'w h'w tk'w F'w N'w o1'w; (try simp only [List.nil_append, List.cons_append] at N'w o1'w); k_extra "mine offs"; (try dsimp only))
  k_with "mine:CompRest" => (with_unfolding_all first
    | (refine LCg.CompRest.succ ?_; intro v'w I'w oI'w C'w oC'w D'w m'w h'w tk'w E'w hv'w hC'w hx'w F'w N'w off'w ne'w; (first | lcg_open hv'w | (obtain ⟨t9'w, hv9'w⟩ := hv'w; subst hv9'w)); refine cut ?_; intro q4'w hq4'w)
    | refine LCg.CompRest.zero ?_)
  k_with "mine:CompRestT" => (with_unfolding_all first
    | (refine LCt.CompRestT.succ ?_; intro v'w I'w oI'w C'w oC'w D'w m'w h'w tk'w E'w hv'w hC'w hx'w F'w N'w off'w ne'w; (first | lcg_open hv'w | (obtain ⟨t9'w, hv9'w⟩ := hv'w; subst hv9'w)))
    | refine LCt.CompRestT.zero ?_)
  k_with "mine:CompEnd" => (refine LCg.CompEnd.intro (by k_asm) (by k_asm) _ (fun _ hp => hp) (by with_reducible assumption) (by lcg_src) ?_)
  k_with "mine arith" => (first | exact Nat.succ_pos _ | with_reducible assumption | (with_reducible exact ar_r0 (by assumption)) | (with_reducible exact ar_r2 (by assumption) (by decide)) | (with_reducible exact ar_r1 (by assumption) (by decide)) | (with_reducible exact ar_absC (by assumption) (by decide)) | (with_reducible exact ar_abs (by assumption) (by assumption) (by decide)) | (with_reducible exact ar_absN (by assumption) (by decide)) | (with_reducible exact ar_absM) | (with_reducible exact ar_absL (by assumption) (by decide)) | (with_reducible exact ar_cle (by assumption) (by decide)) | (with_reducible exact Int.natCast_nonneg _) | (with_reducible exact ar_min0) | (with_reducible exact ar_min1 (by decide)) | (with_reducible exact ar_sc (by assumption) (by decide)) | (with_reducible exact Nat.le_trans (by assumption) (by decide)) | decide)
  k_with "mine mem" => (first | exact memk 0 rfl | exact memk 1 rfl | exact memk 2 rfl | exact memk 3 rfl | exact memk 4 rfl | exact memk 5 rfl | exact memk 6 rfl | exact memk 7 rfl | exact memk 8 rfl | exact memk 9 rfl | exact memk 10 rfl | exact memk 11 rfl | exact memk 12 rfl | exact memk 13 rfl | exact memk 14 rfl | exact memk 15 rfl | exact memk 16 rfl | exact memk 17 rfl | exact memk 18 rfl | exact memk 19 rfl)
  k_with "mine same" => ((repeat (rename (¬ _) ∧ _ => hz'w; have hz1'w := And.left hz'w; have hz2'w := And.right hz'w; clear hz'w)); (repeat (first | with_reducible rfl | (refine (if_neg (by assumption)).trans ?_))))
  k_with "mine use" => ((case mk1 => k_asm); (case mk2 => k_asm); (case mk3 => k_asm); (case mk4 => k_asm); (case mk5 => k_asm); (case mk6 => exact rfl); (case mk7 => lcg_sub); (case mk8 => ktr_room); (case mk9 => units_room))
  k_with "mine:subscriptTail Name Constant ref int" => (k_here; (with_reducible show wpAny _ _ (subscriptTail _ _ (Value.ref _) (Value.int _ _)) _ _ _); kim_at)
  k_with "mine:subscriptTail Name Constant ref int" => (k_here; (with_reducible show wpAny _ _ (subscriptTail _ _ (Value.ref _) (Value.int _ _)) _ _ _); (with_unfolding_all refine' item_litK ?mk1 ?mk2 ?mk3 ?mk4 ?_ ?mk6; (case mk1 => is_list); (case mk2 => decide); (case mk3 => decide); (case mk4 => rfl); (case mk6 => with_unfolding_all rfl); k_whole))
  k_with "mine:binaryOp Div int int" => (k_here; (with_reducible refine' divI_r ?me ?mk1 ?mk2 ?mk3 ?_); (case me => first | assumption | exact rfl); (case mk1 => k_dflt rfl); (case mk2 => first | decide | omega); (case mk3 => omega); intro t'w)
  k_with "mine:binaryOp Mult float int" => (k_here; (with_reducible refine' mulFI_r ?me ?mk3 ?_); (case me => first | assumption | exact rfl); (case mk3 => omega); intro t'w)
  k_with "mine:binaryOp Mult int float" => (k_here; (with_reducible refine' mulIF_r ?me ?mk3 ?_); (case me => first | assumption | exact rfl); (case mk3 => omega); intro t'w)
  k_with "mine:call builtin:round" => (k_here; (with_reducible show wpAny _ _ (call (Value.builtin "round") [Value.float _ _]) _ _ _); (with_reducible refine' round_r ?mhf ?me ?mkh ?_); (case mhf => assumption); (case me => first | assumption | exact rfl); (case mkh => k_dflt rfl); intro t'w)
  k_with "mine:call builtin:max" => (k_here; first
    | ((with_reducible show wpAny _ _ (call (Value.builtin "max") [Value.ref _]) _ _ _); (with_reducible refine' max_l3 ?me ?mkh ?mk1 ?mk2 ?mk3 ?_); (case mk1 => k_asm); (case mk2 => k_asm); (case mk3 => k_dflt k_mem); (case me => assumption); (case mkh => k_dflt rfl); intro h'w tk'w t'w F'w N'w; (try k_sweep))
    | ((with_reducible show wpAny _ _ (call (Value.builtin "max") [Value.int _ _, Value.int _ _]) _ _ _); (with_reducible refine' max2_r ?me ?mkh ?mk1 ?mk2 ?_); (case mk1 => k_asm); (case mk2 => k_asm); (case me => first | assumption | exact rfl); (case mkh => k_dflt rfl); intro h'w tk'w t'w F'w N'w; (try k_sweep)))
  k_with "mine:call builtin:min" => (k_here; first
    | ((with_reducible show wpAny _ _ (call (Value.builtin "min") [Value.ref _]) _ _ _); (with_reducible refine' min_l3 ?me ?mkh ?mk1 ?mk2 ?mk3 ?_); (case mk1 => k_asm); (case mk2 => k_asm); (case mk3 => k_dflt k_mem); (case me => assumption); (case mkh => k_dflt rfl); intro h'w tk'w t'w F'w N'w; (try k_sweep))
    | ((with_reducible show wpAny _ _ (call (Value.builtin "min") [Value.int _ _, Value.int _ _]) _ _ _); (with_reducible refine' min2_r ?me ?mkh ?mk1 ?mk2 ?_); (case mk1 => k_asm); (case mk2 => k_asm); (case me => first | assumption | exact rfl); (case mkh => k_dflt rfl); intro h'w tk'w t'w F'w N'w; (try k_sweep)))
  k_with "mine:ite" => (k_here; first
    | (with_reducible refine ite_neg (by first | assumption | exact Bool.eq_false_iff.mp (by assumption) | (simp only [decide_true, decide_false, Bool.not_true, Bool.not_false, eq_self, Bool.false_eq_true, not_false_eq_true]; done) | ((try simp only [beq_iff_eq, bne_iff_ne, decide_eq_true_eq, ne_eq, Bool.not_eq_true', decide_eq_false_iff_not, Int.not_lt, Int.not_le]); omega)) ?_)
    | (with_reducible refine ite_pos (by first | assumption | (simp only [decide_true, decide_false, Bool.not_true, Bool.not_false, eq_self, Bool.false_eq_true, not_false_eq_true]; done) | ((try simp only [beq_iff_eq, bne_iff_ne, decide_eq_true_eq, ne_eq, Bool.not_eq_true', decide_eq_false_iff_not, Int.not_lt, Int.not_le]); omega)) ?_))
  k_with "mine:compareOp NotIn" => (k_here; (with_reducible show wpAny _ _ (compareOp CmpOp.NotIn (Value.int _ _) (Value.ref _)) _ _ _); (with_reducible refine' notIn_range ?mk1 ?mk2 ?mk3 ?_); (case mk1 => k_dflt assumption); (case mk2 => omega); (case mk3 => omega))
  k_with "mine:compareOp NotIn int ref" => (walk_at "compareOp NotIn")
  k_with "mine:binaryOp FloorDiv int int" => (k_here; (with_reducible refine' fdiv_r ?me ?mk2 ?mk3 ?_); (case me => first | assumption | exact rfl); (case mk2 => first | decide | omega); (case mk3 => first | decide | omega); intro t'w)
  k_with "mine:binaryOp Mod int int" => (k_here; (with_reducible refine' fmod_r ?me ?mk2 ?_); (case me => first | assumption | exact rfl); (case mk2 => first | decide | omega); intro t'w)
  k_with "mine enterC" => (refine' code_defPC ?mk1 ?mk2 ?mk3 ?mk4 ?mk5 ?mkA ?mkF ?mkK ?mk6 ?mk7 ?mk8 ?mk9 ?mkB ?mkD ?_ ?mc2 ?mc3 ?mc4; (case mkA => exact rfl); (case mkF => exact rfl); (case mkK => assumption); (case mk1 => k_asm); (case mk2 => k_asm); (case mk3 => k_asm); (case mk4 => k_asm); (case mk5 => k_asm); (case mk6 => k_is); (case mk7 => k_is); (case mk8 => ktr_room); (case mk9 => exact BindsTo.of_eq rfl); (case mkB => exact rfl); (case mkD => decide +kernel); (case mc2 => exact rfl); (case mc3 => exact rfl); (case mc4 => exact rfl); k_whole; intro g'w L'w h'w tk'w cells'w hH'w FG'w F'w N'w Y'w B'w X'w T'w l1'w; (try k_lt l1'w); k_cells Y'w; (try simp only [List.cons_append, List.nil_append] at N'w); (try dsimp only); (try k_lift B'w); (try k_fold); refine cut ?_; intro qq'w hq'w; refine letA ?_; intro A1'w)
  k_with "mine startC" => (dsimp only [Ctr]; k_fill; intros; refine wpAny_call ?_; k_dflt (k_extra "mine enterC"))
  k_with "mine:CTup" => (k_here; k_dflt (refine CTup.at (by rfl) (by k_asm) (by k_asm) (by k_mem) (by exact Nat.le_of_ble_eq_true rfl) ?_; intro g'w; lcg_lit))
  k_with "mine:CTupT" => (k_here; k_dflt (refine CTupT.at (by rfl) (by k_asm) (by k_asm) (by k_mem) (by exact Nat.le_of_ble_eq_true rfl) ?_; intro g'w; lct_lit))
  k_with "mine:pyIter ref" => (k_here; (with_reducible show wpAny _ _ (pyIter (Value.ref _)) (fun it s₂ => TurnsAt _ _ _ _ _ _ _ _ _ it s₂) _ _); ktu_seq)
  k_with "mine updF" => (first | (refine' UpdF.head ?ma; (case ma => k_extra "mine off")) | (refine' UpdF.tail ?ma ?mb; (case ma => k_ne); (case mb => k_extra "mine updF")))
  k_with "mine:storeName" => (k_here; k_dflt (first
    | (refine' storeX_L ?mF ?mN ?_ ?ma ?mb; (case ma => rfl); (case mb => rfl); (case mF => k_asm); (case mN => k_asm); k_whole; intro h'w F'w N'w; (try k_sweep))
    | (refine' storeX_C ?mF ?mN ?mc ?mU ?md ?_ ?ma ?mb; (case ma => rfl); (case mb => rfl); (case mF => k_asm); (case mN => k_asm); (case mc => rfl); (case mU => k_extra "mine updF"); (case md => k_asm); k_whole; intro h'w o'w F'w N'w d'w; (try dsimp only at N'w); (try k_sweep))))
  k_with "mine:CompSrc" => (k_here; k_dflt (refine LCg.CompSrc.ledger (by rfl) (by k_asm) (by k_asm) (by k_mem) (by exact Nat.le_of_ble_eq_true rfl) ?_; intro g'w; lcg_lit))
  k_with "mine enterC" => (refine' code_defPC2 ?mkb ?mk1 ?mk2 ?mk3 ?mk4 ?mk5 ?mkA ?mkF ?mkK ?mk6 ?mk7 ?mk8 ?mk9 ?mkB ?mkD ?mkE ?mkG ?_ ?mc2 ?mc3 ?mc4; (case mkb => assumption); (case mkA => exact rfl); (case mkF => exact rfl); (case mkK => assumption); (case mk1 => k_asm); (case mk2 => k_asm); (case mk3 => k_asm); (case mk4 => k_asm); (case mk5 => k_asm); (case mk6 => k_is); (case mk7 => k_is); (case mk8 => ktr_room); (case mk9 => exact BindsTo.of_eq rfl); (case mkB => exact rfl); (case mkD => decide +kernel); (case mkE => intro _; rfl); (case mkG => intro _; rfl); (case mc2 => exact rfl); (case mc3 => exact rfl); (case mc4 => exact rfl); k_whole; intro g'w L'w h'w tk'w cells'w hH'w FG'w F'w N'w Y'w B'w X'w T'w l1'w; (try k_lt l1'w); k_cells Y'w; (try simp only [List.cons_append, List.nil_append] at N'w); (try dsimp only); (try k_lift B'w); (try k_fold); refine cut ?_; intro qq'w hq'w; refine letA ?_; intro A1'w)
  trivial
open Builtin.Str in
theorem ell_at {n : Nat} (hn : n ≤ 12) :
    (!!(occurrences (wantS n) (Str.ofString "...") 0 (wantS n).length 1).isEmpty) = false ∧ Txt.split (wantS n) (Str.ofString "...") = mkS [] :: (List.replicate n (mkS [98]) ++ [mkS [97]]) ∧
    Txt.replace (rowS n) (Str.ofString ".") (Str.ofString "b...") = repS n ∧ Txt.replace (rowS n) (Str.ofString ".") (Str.ofString "b") = gotS n ∧ Str.ofString "..." ++ repS n = wantS n ∧
    (decide (0 + (mkS [97]).length ≤ (gotS n).length) && subAt (gotS n) (mkS [97]) ((gotS n).length - (mkS [97]).length)) = true ∧ (gotS n).length = n + 1 ∧
    (∀ i, i ≤ 12 → occurrences (gotS n) (mkS [98]) i n 1 = if i < n then [i] else []) ∧ occurrences (gotS n) (mkS []) 0 n 1 = [0] := by
  have h := List.all_eq_true.mp ell_all n (List.mem_range.mpr (by omega))
  unfold ellB at h
  simp only [Bool.and_eq_true] at h
  obtain ⟨⟨⟨⟨⟨⟨⟨⟨h1, h2⟩, h3⟩, h4⟩, h5⟩, h6⟩, h7⟩, h8⟩, h9⟩ := h
  refine ⟨by rw [h1]; rfl, eq_of_beq h2, eq_of_beq h3, eq_of_beq h4, eq_of_beq h5, by rw [Bool.and_eq_true]; exact h6, eq_of_beq h7, fun i hi => ?_, eq_of_beq h9⟩
  exact eq_of_beq (List.all_eq_true.mp h8 i (List.mem_range.mpr (by omega)))
noncomputable abbrev wsN (vs : List Value) (n : Nat) : Obj := { cls := .type "list", data := .seq vs.toArray n }
noncomputable abbrev wsO (vs : List Value) : Obj := wsN vs 0
section
variable {prog : Program} {w : World} {A : Around} {E : Value → Shared → Prop} {s : Shared} {Q : Value → Shared → Prop} {h₀ : Heap} {L : Addr} {m : Str → Option Value} {news : List (Addr × Obj)} {x y : Str} {t u : Tok}
theorem split_r {l : List Str} (e : Txt.split x y = l) (hF : Fr h₀ L s.heap m) (hN : News h₀ L s.heap news) (hy : (y.length == 0) = false) (hsz : x.length + 2 ≤ sizeLine)
    (h : ∀ D ps h' k, ps.map (·.1) = l → Fr h₀ L h' m → News h₀ L h' ((D, wsO (strValues ps)) :: news) → LCg.Off1 D news → Q (.ref D) { s with heap := h', toks := k }) :
    wpAny (model prog w) A (call (.builtin "str.split") [.str x t, .str y u]) Q E s :=
  splitN1 hF hN hy (fun l' h' k hl F N => by
    subst e
    refine h _ l' h' k hl F N (off_add hN ?_)
    cases q : s.heap.get? s.heap.objs.size with
    | none => rfl
    | some o => exact absurd (Heap.lt_size q) (Nat.lt_irrefl _)) hsz
theorem ell_len {n : Nat} {mid : List (Str × Tok)} (h : mid.map (·.1) = List.replicate n (mkS [98])) : (strValues mid).length = n := by
  have := congrArg List.length h
  simpa [strValues] using this
theorem ell_len2 {n : Nat} {mid : List (Str × Tok)} {a z : Tok} (h : mid.map (·.1) = List.replicate n (mkS [98])) : ((Value.str (mkS []) a :: (strValues mid ++ [Value.str (mkS [97]) z])).length : Int) = (n : Int) + 2 := by
  have := ell_len h
  simp only [List.length_cons, List.length_append, List.length_nil, this]
  omega
theorem ell_shape {n : Nat} {ps : List (Str × Tok)} (h : ps.map (·.1) = mkS [] :: (List.replicate n (mkS [98]) ++ [mkS [97]])) :
    ∃ a z mid, mid.map (·.1) = List.replicate n (mkS [98]) ∧ strValues ps = .str (mkS []) a :: (strValues mid ++ [.str (mkS [97]) z]) := by
  cases ps with
  | nil => simp at h
  | cons p r =>
    rw [List.map_cons] at h
    injection h with h1 h2
    obtain ⟨x, y, h3, h4, h5⟩ := List.map_eq_append_iff.mp h2
    cases y with
    | nil => simp at h5
    | cons q r' =>
      rw [List.map_cons] at h5
      injection h5 with h6 h7
      have h8 := List.map_eq_nil_iff.mp h7
      subst h8 h3
      obtain ⟨p1, p2⟩ := p
      obtain ⟨q1, q2⟩ := q
      have h1' : p1 = _ := h1
      have h6' : q1 = _ := h6
      subst h1' h6'
      exact ⟨p2, q2, x, h4, by simp [strValues]⟩
end
theorem ksetP38_18 : True := by
  k_with "mine:call builtin:str.split" => (k_here; (with_reducible refine' split_r ?me ?mF ?mN ?my ?mz ?_); (case me => assumption); (case mF => k_asm); (case mN => k_asm); (case my => decide +kernel); (case mz => assumption); intro D'w ps'w h'w tk'w hps'w F'w N'w o1'w; (try simp only [LCg.Off1, and_true] at o1'w); obtain ⟨a'w, z'w, mid'w, hmid'w, eps'w⟩ := ell_shape hps'w; rw [eps'w] at N'w; clear eps'w hps'w; have hlm'w := ell_len hmid'w; have hlm2'w := ell_len2 (a := a'w) (z := z'w) hmid'w)
  trivial

section
variable {prog : Program} {w : World} {A : Around} {E : Value → Shared → Prop} {s : Shared} {Q : Value → Shared → Prop} {h₀ : Heap} {L : Addr} {m : Str → Option Value} {news : List (Addr × Obj)} {x y : Str} {t u : Tok}
theorem wsN_is {D : Addr} {vs : List Value} {n : Nat} (N : News h₀ L s.heap news) (hm : (D, wsN vs n) ∈ news) : s.heap.IsList D vs.toArray := ⟨_, (N _ hm).1, rfl, _, rfl⟩
theorem len_ws {D : Addr} {vs : List Value} {n : Nat} {k : Int} (N : News h₀ L s.heap news) (hm : (D, wsN vs n) ∈ news) (e : (vs.length : Int) = k) (hk : k < 2 ^ 63)
    (h : ∀ t tk, Q (.int k t) { s with toks := tk }) : wpAny (model prog w) A (call (.builtin "len") [.ref D]) Q E s :=
  len_list (wsN_is N hm) (by simp; omega) (by rw [show ((vs.toArray.size : Nat) : Int) = k by simpa using e]; exact h _ _)
theorem last_ws {value slice : PySem.Expr} {D : Addr} {x z : Value} {l : List Value} {n : Nat} (N : News h₀ L s.heap news) (hm : (D, wsN (x :: (l ++ [z])) n) ∈ news) (hl : l.length ≤ 1000) (h : Q z s)
    (hs : subscripted slice false (.ref D) (.int (-1) u) = operate [.ref D, .int (-1) u] (getItem (.ref D) (.int (-1) u)) := by with_unfolding_all rfl) :
    wpAny (model prog w) A (subscriptTail value slice (.ref D) (.int (-1) u)) Q E s :=
  tail_any (wsN_is N hm).typeIs slot_list_getitem.lookup (wpAny_getItem_list_neg (wsN_is N hm) (by decide) (by simp; omega) (by decide) (by
    simp only [List.size_toArray, List.length_cons, List.length_append, List.length_nil]
    have e : ((-1 : Int) + ((l.length + (0 + 1) + 1 : Nat) : Int)).toNat = l.length + 1 := by omega
    rw [e]
    simp) h) hs
theorem erase_last {z : Value} {l : List Value} : (l ++ [z]).eraseIdx l.length = l := by
  rw [List.eraseIdx_append_of_length_le (Nat.le_refl _)]; simp
theorem del_last {D : Addr} {x z : Value} {l : List Value} {n : Nat} {rest : List (Addr × Obj)} {Q : Unit → Shared → Prop} (F : Fr h₀ L s.heap m) {p₁ : Addr × Obj} (N : News h₀ L s.heap (p₁ :: (D, wsN (x :: (l ++ [z])) n) :: rest)) (h1 : p₁.1 ≠ D) (hap : ∀ p ∈ rest, p.1 ≠ D) (hl : l.length ≤ 1000)
    (h : ∀ h', Fr h₀ L h' m → News h₀ L h' (p₁ :: (D, wsN (x :: l) (n + 1)) :: rest) → Q () { s with heap := h' }) : wpAny (model prog w) A (delItem (.ref D) (.int (-1) u)) Q E s := by
  refine delItem_second (k := l.length + 1) F N h1 hap (by decide) ?_ (fun h' F' N' => h h' F' ?_) ?_
  · rw [seqIndex_neg (by decide) (by simp; omega)]
    refine congrArg some ?_
    simp only [List.size_toArray, List.length_cons, List.length_append, List.length_nil]
    omega
  · have e : (x :: (l ++ [z])).toArray.toList.eraseIdx (l.length + 1) = x :: l := by rw [List.toList_toArray, List.eraseIdx_cons_succ, erase_last]
    rw [e] at N'
    exact N'
  · have := sizeLine_eq; simp; omega
end
theorem ksetP38_19 : True := by
  k_with "mine:call builtin:len" => (k_here; (with_reducible show wpAny _ _ (call (Value.builtin "len") [Value.ref _]) _ _ _); (with_reducible refine' len_ws ?mN ?mm ?me ?mk ?_); (case mN => k_asm); (case mm => k_mem); (case me => assumption); (case mk => omega); intro t'w tk'w)
  k_with "mine:subscriptTail" => (k_here; (with_reducible show wpAny _ _ (subscriptTail _ _ (Value.ref _) (Value.int (-1) _)) _ _ _); (refine' last_ws ?mN ?mm ?ml ?_ ?mz; (case mN => k_asm); (case mm => k_mem); (case ml => omega); (case mz => with_unfolding_all rfl)); (try dsimp only))
  k_with "mine:delItem ref int" => (k_here; (with_reducible show wpAny _ _ (delItem (Value.ref _) (Value.int (-1) _)) _ _ _); (refine' del_last ?mF ?mN ?mq ?mp ?ml ?_; (case mF => k_asm); (case mN => k_asm); (case mq => k_ne); (case mp => (intro p hp; exact absurd hp List.not_mem_nil)); (case ml => omega)); intro h'w F'w N'w)
  trivial

open Builtin.Str in
theorem got_len (m : Nat) : (gotS m).length = m + 1 := by simp [gotS, mkS, Str.length]
open Builtin.Str in
theorem find_nil {m : Nat} (hm : m ≤ 12) : findV (gotS m) (mkS []) 0 (((gotS m).length : Int) - ((mkS [97]).length : Int)) = 0 := by
  obtain ⟨-, -, -, -, -, -, -, -, f⟩ := ell_at hm
  have h1 : fromIndex (gotS m).length 0 = 0 := rfl
  have h2 : fromIndex (gotS m).length (((gotS m).length : Int) - ((mkS [97]).length : Int)) = m := by
    rw [got_len]
    have : ((mkS [97]).length : Int) = 1 := rfl
    rw [this]; unfold fromIndex; split <;> omega
  unfold findV
  rw [h1, h2, got_len, Nat.min_eq_left (Nat.le_succ m), f]
  rfl
open Builtin.Str in
theorem find_b {m j : Nat} {sp : Int} (hm : m ≤ 12) (hj : j ≤ 12) (e : sp = j) : findV (gotS m) (mkS [98]) sp (((gotS m).length : Int) - ((mkS [97]).length : Int)) = if j < m then (j : Int) else -1 := by
  subst e
  obtain ⟨-, -, -, -, -, -, -, f, -⟩ := ell_at hm
  have h1 : fromIndex (gotS m).length (j : Int) = j := by unfold fromIndex; split <;> omega
  have h2 : fromIndex (gotS m).length (((gotS m).length : Int) - ((mkS [97]).length : Int)) = m := by
    rw [got_len]
    have : ((mkS [97]).length : Int) = 1 := rfl
    rw [this]; unfold fromIndex; split <;> omega
  unfold findV
  rw [h1, h2, got_len, Nat.min_eq_left (Nat.le_succ m), f j hj]
  by_cases h : j < m
  · rw [if_pos h, if_pos h]
  · rw [if_neg h, if_neg h]
theorem ell_item {n j : Nat} {mid : List (Str × Tok)} {a : Tok} {v : Value} (h : mid.map (·.1) = List.replicate n (mkS [98])) (hv : (Value.str (mkS []) a :: strValues mid)[j + 1]? = some v) : j < n ∧ ∃ t, v = .str (mkS [98]) t := by
  rw [List.getElem?_cons_succ] at hv
  have hl := ell_len h
  obtain ⟨hj, e⟩ := List.getElem?_eq_some_iff.mp hv
  refine ⟨by omega, ?_⟩
  unfold strValues at hv
  rw [List.getElem?_map] at hv
  cases q : mid[j]? with
  | none => rw [q] at hv; cases hv
  | some p =>
    rw [q] at hv
    have e1 : (mid.map (·.1))[j]? = some p.1 := by rw [List.getElem?_map, q]; rfl
    rw [h, List.getElem?_replicate] at e1
    split at e1
    · have e2 : p.1 = mkS [98] := (Option.some.inj e1).symm
      have e3 : v = .str p.1 p.2 := (Option.some.inj hv).symm
      exact ⟨p.2, by rw [e3, e2]⟩
    · cases e1
noncomputable def ellR (n m : Nat) (i : Nat) (sp : Int) : Prop := sp = ((i - 1 : Nat) : Int) ∧ i - 1 ≤ m ∧ i ≤ n + 1
theorem ksetP38_20 : True := by
  k_with "mine:exec For Name Name cons nil" => (k_here; (rename Fr _ _ _ _ => lF'w); (with_unfolding_all refine' For_turns lF'w ?_; k_whole))
  k_with "mine:pyIter ref" => (k_here; (with_reducible show wpAny _ _ (pyIter (Value.ref _)) (fun it s₂ => TurnsAt _ _ _ _ _ _ _ _ _ it s₂) _ _); (refine' iter_listTurns (lo := wsN _ _) ?mhh ?mF ?mN ?mm ?mc ?md ?_; (case mhh => rfl); (case mF => k_asm); (case mN => k_asm); (case mm => k_mem); (case mc => rfl); (case md => rfl)); intro I'w l1'w; (try k_lt l1'w))
  k_with "mine:call builtin:str.find" => (k_here; (with_reducible refine' find_r ?me ?_); (case me => assumption); intro t'w tk'w)
  k_with "mine:UnrEndW" => (refine' UnrEndW.introK ?mF ?mN ?mhx ?mhR ?mhI ?mhk ?moff ?mhm; (case mF => k_asm); (case mN => k_asm); (case mhx => rfl); (case mhI => k_subL); (case mhk => k_subL); (case moff => ktu_offL); (case mhm => (intro y hy; (simp only [List.mem_cons, List.not_mem_nil, or_false, not_or] at hy); (obtain ⟨hy1, hy2⟩ := hy); first | (k_extra "mine same"; done) | rfl | (simp +zetaDelta [hy1, hy2]; done))); (case mhR => first | exact ⟨by omega, by omega, by omega⟩ | exact ⟨by simp_all, by omega, by omega⟩))
  trivial

theorem ell_c (w mean mg mb) (n m : Nat) (hn : n ≤ 12) (hm : m ≤ 12) (t u : Tok) : Ctr w mean mg mb 83 [.str (wantS n) t, .str (gotS m) u] [] 1 (PBool (decide (n ≤ m))) := by
  have hB : Bnd [(Str.ofString "got", .str (gotS m) u), (Str.ofString "want", .str (wantS n) t)] := trivial
  obtain ⟨e1, e2, -, -, -, -, -, -, -⟩ := ell_at hn
  obtain ⟨-, -, -, -, -, f1, f2, f3, f4⟩ := ell_at hm
  have f1' : Txt.endswith (gotS m) (mkS [97]) = true := f1
  clear f1
  have el97 : (mkS [97]).length = 1 := rfl
  have hsz : (wantS n).length + 2 ≤ sizeLine := by
    have := sizeLine_eq
    have e : (wantS n).length = 4 * n + 4 := by simp [wantS, mkS, Str.length]; omega
    omega
  k_extra "mine start"
  iterate 190 (first | ((with_reducible show ItemsRest _ _ _ _ _ _ _ _ _ _ _ _ _ _ _); skip) | k_extra "mine step" | skip)
  refine' ItemsRest.invK (Str.ofString "startpos") [Str.ofString "w"] (ellR n m) ?hs ?h0 ?turn ?done
  case hs => k_subL
  case h0 => exact ⟨_, _, rfl, rfl, Nat.zero_le _, Nat.zero_le _⟩
  case turn =>
    intro i v sp t5 u5 h tk hv hR F
    obtain ⟨hsp, hi, hin⟩ := hR
    cases i with
    | zero =>
      obtain rfl := Option.some.inj hv
      obtain rfl : sp = 0 := hsp
      have ef := find_nil hm
      have el : (mkS []).length = 0 := rfl
      clear hv
      simp only [dirt] at F
      ktu_objs
      rename News _ _ _ _ => N
      dsimp only [envOf] at F N
      (try k_fold)
      refine cut2 ?_
      intro q3 hq3
      k_steps
    | succ j =>
      obtain ⟨hj, t6, rfl⟩ := ell_item (by assumption) hv
      clear hv
      have ef := find_b (j := j) hm (by omega) hsp
      have el : (mkS [98]).length = 1 := rfl
      simp only [dirt] at F
      ktu_objs
      rename News _ _ _ _ => N
      dsimp only [envOf] at F N
      (try k_fold)
      refine cut2 ?_
      intro q3 hq3
      by_cases hjm : j < m
      · rw [if_pos hjm] at ef
        k_steps
      · rw [if_neg hjm] at ef
        k_steps
        k_extra "mine ret"
        unfold PBool
        rw [decide_eq_false (by omega)]
  case done =>
    intro sp t5 u5 h tk hR F N
    obtain ⟨hsp, hi, hin⟩ := hR
    simp only [List.length_cons] at hi hin
    simp only [dirt] at F
    dsimp only [envOf] at F N
    (try dsimp only)
    k_steps
    k_extra "mine ret"
    unfold PBool
    rw [decide_eq_true (by omega)]
end
section
theorem ksetP39_23 : True := by
  k_with_none
  k_with "mine enter" => (refine' code_defP ?mkb ?mk1 ?mk2 ?mk3 ?mk4 ?mk5 ?mkA ?mkF ?mkK ?mk6 ?mk7 ?mk8 ?mk9 ?mkB ?_ ?mc2 ?mc3 ?mc4 ?mc5; (case mkb => assumption); (case mkA => exact rfl); (case mkF => exact rfl); (case mkK => assumption); (case mk1 => k_asm); (case mk2 => k_asm); (case mk3 => k_asm); (case mk4 => k_asm); (case mk5 => k_asm); (case mk6 => k_is); (case mk7 => k_is); (case mk8 => ktr_room); (case mk9 => exact BindsTo.of_eq rfl); (case mc5 => decide); (case mkB => exact locs rfl); (case mc2 => exact rfl); (case mc3 => exact rfl); (case mc4 => exact rfl); k_whole; intro g'w L'w h'w hH'w FG'w F'w N'w B'w X'w T'w; (try simp only [List.reverse_cons, List.reverse_nil, List.nil_append, List.cons_append, List.length_cons, List.length_nil]); (try dsimp only); (try k_lift B'w); (try k_fold); refine cut ?_; intro qq'w hq'w; refine letA ?_; intro A1'w)
  k_with "mine start" => (w_top off; dsimp only [Ctr]; k_fill; intros; refine wpAny_call ?_; k_dflt (k_extra "mine enter"))
  k_with "mine keeps" => (refine' keeps_of ?mq1 ?mq2 ?mq3 ?mq4 ?mq5; (case mq1 => with_reducible assumption); (case mq2 => with_reducible assumption); (case mq3 => with_reducible assumption); (case mq4 => with_reducible assumption); (case mq5 => lcg_sub))
  k_with "mine off" => (first | exact List.forall_mem_nil _ | (refine List.forall_mem_cons.mpr ⟨?ma, ?mb⟩; (case ma => k_ne); (case mb => k_extra "mine off")))
  k_with "mine fresh" => (refine' fresh_of ?mq1 ?mq2 ?mq3 ?mq4; (case mq1 => with_reducible assumption); (case mq2 => with_reducible assumption); (case mq3 => k_mem); (case mq4 => k_extra "mine off"))
  k_with "mine ret" => ((rename RetOf _ _ _ => hR'w); refine' RetOf.at hR'w ?mkk ?_; (case mkk => k_extra "mine keeps"))
  k_with "mine tup3" => (k_extra "mine ret"; refine' ⟨_, _, _, _, rfl, ?mkf, ?mkg, ?_⟩; (case mkg => exact News.get (by with_reducible assumption) (by k_mem)); (case mkf => k_extra "mine fresh"))
  k_with "mine:execs cons" => (k_here; first | (refine' execs_cutL ?mhs ?mF ?mN ?_; (case mhs => first | (dsimp only; exact rfl) | dsimp only | exact rfl); (case mF => k_asm); (case mN => k_asm); intro m1'w n1'w F1'w N1'w q'w hq'w; try dsimp only at F1'w N1'w) | (refine' execs_cut ?_; intro q'w hq'w))
  k_with "mine:execs cons" => (k_here; (with_reducible show wpAny _ _ _ _ _ (Shared.mk _ _ _ (_ + _) _)); refine' gen_toks ?mhX ?_; (case mhX => omega); intro tk'w htk'w)
  k_with "mine:execs nil" => (k_here; (with_reducible show wpAny _ _ _ _ _ (Shared.mk _ _ _ (_ + _) _)); refine' gen_toks ?mhX ?_; (case mhX => omega); intro tk'w htk'w)
  k_with "mine units" => ((have hcL9 := cLine_is); (try simp +zetaDelta only [units_in1, units_deeper, Around.mark_units, units_caller]); (try dsimp +zetaDelta only [ktrTop]); omega)
  k_with "mine step" => (first | (k_unfold; (try dsimp only)) | (k_end; wrow_close) | walk1 | (dsimp only; walk1) | (leave1; walk_say "STEP leave1"; try dsimp only))
  k_with "mine ne" => (first | with_reducible assumption | (refine Ne.symm ?_; with_reducible assumption) | (refine Nat.ne_of_lt ?_; with_reducible assumption) | (refine Nat.ne_of_gt ?_; with_reducible assumption) | (refine neN ?_; (try dsimp only); (try simp only [ne_eq]); omega))
  k_with "mine:Held" => (refine Held.go (by with_reducible assumption) ?_; try dsimp only)
  k_with "mine offs" => (k_dflt ((rename LCg.Off1 _ _ => hq'w); refine Off1c.of hq'w ?_; clear hq'w; (repeat intro o2'w); refine ⟨?_⟩))
  k_with "mine:FinE" => ((unfold LCg.FinE); intro D'w h'w tk'w F'w N'w o1'w; (try simp only [List.nil_append, List.cons_append] at N'w o1'w); k_extra "mine offs"; (try dsimp only))
  k_with "mine:CompRest" => (with_unfolding_all first
    | (refine LCg.CompRest.succ ?_; intro v'w I'w oI'w C'w oC'w D'w m'w h'w tk'w E'w hv'w hC'w hx'w F'w N'w off'w ne'w; (first | lcg_open hv'w | (obtain ⟨t9'w, hv9'w⟩ := hv'w; subst hv9'w)); refine cut ?_; intro q4'w hq4'w)
    | refine LCg.CompRest.zero ?_)
  k_with "mine:CompRestT" => (with_unfolding_all first
    | (refine LCt.CompRestT.succ ?_; intro v'w I'w oI'w C'w oC'w D'w m'w h'w tk'w E'w hv'w hC'w hx'w F'w N'w off'w ne'w; (first | lcg_open hv'w | (obtain ⟨t9'w, hv9'w⟩ := hv'w; subst hv9'w)))
    | refine LCt.CompRestT.zero ?_)
  k_with "mine:CompEnd" => (refine LCg.CompEnd.intro (by k_asm) (by k_asm) _ (fun _ hp => hp) (by with_reducible assumption) (by lcg_src) ?_)
  k_with "mine arith" => (first | exact Nat.succ_pos _ | with_reducible assumption | (with_reducible exact ar_r0 (by assumption)) | (with_reducible exact ar_r2 (by assumption) (by decide)) | (with_reducible exact ar_r1 (by assumption) (by decide)) | (with_reducible exact ar_absC (by assumption) (by decide)) | (with_reducible exact ar_abs (by assumption) (by assumption) (by decide)) | (with_reducible exact ar_absN (by assumption) (by decide)) | (with_reducible exact ar_absM) | (with_reducible exact ar_absL (by assumption) (by decide)) | (with_reducible exact ar_cle (by assumption) (by decide)) | (with_reducible exact Int.natCast_nonneg _) | (with_reducible exact ar_min0) | (with_reducible exact ar_min1 (by decide)) | (with_reducible exact ar_sc (by assumption) (by decide)) | (with_reducible exact Nat.le_trans (by assumption) (by decide)) | decide)
  k_with "mine mem" => (first | exact memk 0 rfl | exact memk 1 rfl | exact memk 2 rfl | exact memk 3 rfl | exact memk 4 rfl | exact memk 5 rfl | exact memk 6 rfl | exact memk 7 rfl | exact memk 8 rfl | exact memk 9 rfl | exact memk 10 rfl | exact memk 11 rfl | exact memk 12 rfl | exact memk 13 rfl | exact memk 14 rfl | exact memk 15 rfl | exact memk 16 rfl | exact memk 17 rfl | exact memk 18 rfl | exact memk 19 rfl)
  k_with "mine same" => ((repeat (rename (¬ _) ∧ _ => hz'w; have hz1'w := And.left hz'w; have hz2'w := And.right hz'w; clear hz'w)); (repeat (first | with_reducible rfl | (refine (if_neg (by assumption)).trans ?_))))
  k_with "mine use" => ((case mk1 => k_asm); (case mk2 => k_asm); (case mk3 => k_asm); (case mk4 => k_asm); (case mk5 => k_asm); (case mk6 => exact rfl); (case mk7 => lcg_sub); (case mk8 => ktr_room); (case mk9 => units_room))
  k_with "mine:subscriptTail Name Constant ref int" => (k_here; (with_reducible show wpAny _ _ (subscriptTail _ _ (Value.ref _) (Value.int _ _)) _ _ _); kim_at)
  k_with "mine:subscriptTail Name Constant ref int" => (k_here; (with_reducible show wpAny _ _ (subscriptTail _ _ (Value.ref _) (Value.int _ _)) _ _ _); (with_unfolding_all refine' item_litK ?mk1 ?mk2 ?mk3 ?mk4 ?_ ?mk6; (case mk1 => is_list); (case mk2 => decide); (case mk3 => decide); (case mk4 => rfl); (case mk6 => with_unfolding_all rfl); k_whole))
  k_with "mine:binaryOp Div int int" => (k_here; (with_reducible refine' divI_r ?me ?mk1 ?mk2 ?mk3 ?_); (case me => first | assumption | exact rfl); (case mk1 => k_dflt rfl); (case mk2 => first | decide | omega); (case mk3 => omega); intro t'w)
  k_with "mine:binaryOp Mult float int" => (k_here; (with_reducible refine' mulFI_r ?me ?mk3 ?_); (case me => first | assumption | exact rfl); (case mk3 => omega); intro t'w)
  k_with "mine:binaryOp Mult int float" => (k_here; (with_reducible refine' mulIF_r ?me ?mk3 ?_); (case me => first | assumption | exact rfl); (case mk3 => omega); intro t'w)
  k_with "mine:call builtin:round" => (k_here; (with_reducible show wpAny _ _ (call (Value.builtin "round") [Value.float _ _]) _ _ _); (with_reducible refine' round_r ?mhf ?me ?mkh ?_); (case mhf => assumption); (case me => first | assumption | exact rfl); (case mkh => k_dflt rfl); intro t'w)
  k_with "mine:call builtin:max" => (k_here; first
    | ((with_reducible show wpAny _ _ (call (Value.builtin "max") [Value.ref _]) _ _ _); (with_reducible refine' max_l3 ?me ?mkh ?mk1 ?mk2 ?mk3 ?_); (case mk1 => k_asm); (case mk2 => k_asm); (case mk3 => k_dflt k_mem); (case me => assumption); (case mkh => k_dflt rfl); intro h'w tk'w t'w F'w N'w; (try k_sweep))
    | ((with_reducible show wpAny _ _ (call (Value.builtin "max") [Value.int _ _, Value.int _ _]) _ _ _); (with_reducible refine' max2_r ?me ?mkh ?mk1 ?mk2 ?_); (case mk1 => k_asm); (case mk2 => k_asm); (case me => first | assumption | exact rfl); (case mkh => k_dflt rfl); intro h'w tk'w t'w F'w N'w; (try k_sweep)))
  k_with "mine:call builtin:min" => (k_here; first
    | ((with_reducible show wpAny _ _ (call (Value.builtin "min") [Value.ref _]) _ _ _); (with_reducible refine' min_l3 ?me ?mkh ?mk1 ?mk2 ?mk3 ?_); (case mk1 => k_asm); (case mk2 => k_asm); (case mk3 => k_dflt k_mem); (case me => assumption); (case mkh => k_dflt rfl); intro h'w tk'w t'w F'w N'w; (try k_sweep))
    | ((with_reducible show wpAny _ _ (call (Value.builtin "min") [Value.int _ _, Value.int _ _]) _ _ _); (with_reducible refine' min2_r ?me ?mkh ?mk1 ?mk2 ?_); (case mk1 => k_asm); (case mk2 => k_asm); (case me => first | assumption | exact rfl); (case mkh => k_dflt rfl); intro h'w tk'w t'w F'w N'w; (try k_sweep)))
  k_with "mine:ite" => (k_here; first
    | (with_reducible refine ite_neg (by first | assumption | exact Bool.eq_false_iff.mp (by assumption) | (simp only [decide_true, decide_false, Bool.not_true, Bool.not_false, eq_self, Bool.false_eq_true, not_false_eq_true]; done) | ((try simp only [beq_iff_eq, bne_iff_ne, decide_eq_true_eq, ne_eq, Bool.not_eq_true', decide_eq_false_iff_not, Int.not_lt, Int.not_le]); omega)) ?_)
    | (with_reducible refine ite_pos (by first | assumption | (simp only [decide_true, decide_false, Bool.not_true, Bool.not_false, eq_self, Bool.false_eq_true, not_false_eq_true]; done) | ((try simp only [beq_iff_eq, bne_iff_ne, decide_eq_true_eq, ne_eq, Bool.not_eq_true', decide_eq_false_iff_not, Int.not_lt, Int.not_le]); omega)) ?_))
  k_with "mine:compareOp NotIn" => (k_here; (with_reducible show wpAny _ _ (compareOp CmpOp.NotIn (Value.int _ _) (Value.ref _)) _ _ _); (with_reducible refine' notIn_range ?mk1 ?mk2 ?mk3 ?_); (case mk1 => k_dflt assumption); (case mk2 => omega); (case mk3 => omega))
  k_with "mine:compareOp NotIn int ref" => (walk_at "compareOp NotIn")
  k_with "mine:binaryOp FloorDiv int int" => (k_here; (with_reducible refine' fdiv_r ?me ?mk2 ?mk3 ?_); (case me => first | assumption | exact rfl); (case mk2 => first | decide | omega); (case mk3 => first | decide | omega); intro t'w)
  k_with "mine:binaryOp Mod int int" => (k_here; (with_reducible refine' fmod_r ?me ?mk2 ?_); (case me => first | assumption | exact rfl); (case mk2 => first | decide | omega); intro t'w)
  k_with "mine enterC" => (refine' code_defPC ?mk1 ?mk2 ?mk3 ?mk4 ?mk5 ?mkA ?mkF ?mkK ?mk6 ?mk7 ?mk8 ?mk9 ?mkB ?mkD ?_ ?mc2 ?mc3 ?mc4; (case mkA => exact rfl); (case mkF => exact rfl); (case mkK => assumption); (case mk1 => k_asm); (case mk2 => k_asm); (case mk3 => k_asm); (case mk4 => k_asm); (case mk5 => k_asm); (case mk6 => k_is); (case mk7 => k_is); (case mk8 => ktr_room); (case mk9 => exact BindsTo.of_eq rfl); (case mkB => exact rfl); (case mkD => decide +kernel); (case mc2 => exact rfl); (case mc3 => exact rfl); (case mc4 => exact rfl); k_whole; intro g'w L'w h'w tk'w cells'w hH'w FG'w F'w N'w Y'w B'w X'w T'w l1'w; (try k_lt l1'w); k_cells Y'w; (try simp only [List.cons_append, List.nil_append] at N'w); (try dsimp only); (try k_lift B'w); (try k_fold); refine cut ?_; intro qq'w hq'w; refine letA ?_; intro A1'w)
  k_with "mine startC" => (dsimp only [Ctr]; k_fill; intros; refine wpAny_call ?_; k_dflt (k_extra "mine enterC"))
  k_with "mine:CTup" => (k_here; k_dflt (refine CTup.at (by rfl) (by k_asm) (by k_asm) (by k_mem) (by exact Nat.le_of_ble_eq_true rfl) ?_; intro g'w; lcg_lit))
  k_with "mine:CTupT" => (k_here; k_dflt (refine CTupT.at (by rfl) (by k_asm) (by k_asm) (by k_mem) (by exact Nat.le_of_ble_eq_true rfl) ?_; intro g'w; lct_lit))
  k_with "mine:pyIter ref" => (k_here; (with_reducible show wpAny _ _ (pyIter (Value.ref _)) (fun it s₂ => TurnsAt _ _ _ _ _ _ _ _ _ it s₂) _ _); ktu_seq)
  k_with "mine updF" => (first | (refine' UpdF.head ?ma; (case ma => k_extra "mine off")) | (refine' UpdF.tail ?ma ?mb; (case ma => k_ne); (case mb => k_extra "mine updF")))
  k_with "mine:storeName" => (k_here; k_dflt (first
    | (refine' storeX_L ?mF ?mN ?_ ?ma ?mb; (case ma => rfl); (case mb => rfl); (case mF => k_asm); (case mN => k_asm); k_whole; intro h'w F'w N'w; (try k_sweep))
    | (refine' storeX_C ?mF ?mN ?mc ?mU ?md ?_ ?ma ?mb; (case ma => rfl); (case mb => rfl); (case mF => k_asm); (case mN => k_asm); (case mc => rfl); (case mU => k_extra "mine updF"); (case md => k_asm); k_whole; intro h'w o'w F'w N'w d'w; (try dsimp only at N'w); (try k_sweep))))
  k_with "mine:CompSrc" => (k_here; k_dflt (refine LCg.CompSrc.ledger (by rfl) (by k_asm) (by k_asm) (by k_mem) (by exact Nat.le_of_ble_eq_true rfl) ?_; intro g'w; lcg_lit))
  k_with "mine enterC" => (refine' code_defPC2 ?mkb ?mk1 ?mk2 ?mk3 ?mk4 ?mk5 ?mkA ?mkF ?mkK ?mk6 ?mk7 ?mk8 ?mk9 ?mkB ?mkD ?mkE ?mkG ?_ ?mc2 ?mc3 ?mc4; (case mkb => assumption); (case mkA => exact rfl); (case mkF => exact rfl); (case mkK => assumption); (case mk1 => k_asm); (case mk2 => k_asm); (case mk3 => k_asm); (case mk4 => k_asm); (case mk5 => k_asm); (case mk6 => k_is); (case mk7 => k_is); (case mk8 => ktr_room); (case mk9 => exact BindsTo.of_eq rfl); (case mkB => exact rfl); (case mkD => decide +kernel); (case mkE => intro _; rfl); (case mkG => intro _; rfl); (case mc2 => exact rfl); (case mc3 => exact rfl); (case mc4 => exact rfl); k_whole; intro g'w L'w h'w tk'w cells'w hH'w FG'w F'w N'w Y'w B'w X'w T'w l1'w; (try k_lt l1'w); k_cells Y'w; (try simp only [List.cons_append, List.nil_append] at N'w); (try dsimp only); (try k_lift B'w); (try k_fold); refine cut ?_; intro qq'w hq'w; refine letA ?_; intro A1'w)
  trivial
section
variable {prog : Program} {w : World} {A : Around} {E : Value → Shared → Prop} {s : Shared} {Q : Value → Shared → Prop} {h₀ : Heap} {L : Addr} {m : Str → Option Value} {news : List (Addr × Obj)} {x y : Str} {t u : Tok}
theorem two_shape {x y : Str} {ps : List (Str × Tok)} (h : ps.map (·.1) = [x, y]) : ∃ a z, strValues ps = [.str x a, .str y z] := by
  match ps, h with
  | [(p1, p2), (q1, q2)], h =>
    have h1 : p1 = x := (List.cons.inj h).1
    have h2 : q1 = y := (List.cons.inj (List.cons.inj h).2).1
    subst h1 h2
    exact ⟨p2, q2, rfl⟩
end
theorem ksetP39_22 : True := by
  k_with "mine:call builtin:str.split" => (k_here; (with_reducible refine' split_r ?me ?mF ?mN ?my ?mz ?_); (case me => assumption); (case mF => k_asm); (case mN => k_asm); (case my => decide +kernel); (case mz => assumption); intro D'w ps'w h'w tk'w hps'w F'w N'w o1'w; (try simp only [LCg.Off1, and_true] at o1'w); obtain ⟨a'w, z'w, eps'w⟩ := two_shape hps'w; rw [eps'w] at N'w; clear eps'w hps'w)
  trivial

open Builtin.Str in
theorem ellA_c (w mean mg mb) (t u : Tok) : Ctr w mean mg mb 83 [.str (mkS [97, 46, 46, 46, 97]) t, .str (mkS [97]) u] [] 1 (PBool false) := by
  have hB : Bnd [(Str.ofString "got", .str (mkS [97]) u), (Str.ofString "want", .str (mkS [97, 46, 46, 46, 97]) t)] := trivial
  have e1 : (!!(occurrences (mkS [97, 46, 46, 46, 97]) (Str.ofString "...") 0 (mkS [97, 46, 46, 46, 97]).length 1).isEmpty) = false := by decide +kernel
  have e2 : Txt.split (mkS [97, 46, 46, 46, 97]) (Str.ofString "...") = [mkS [97], mkS [97]] := by decide +kernel
  have f1 : Txt.startswith (mkS [97]) (mkS [97]) = true := by decide +kernel
  have f2 : Txt.endswith (mkS [97]) (mkS [97]) = true := by decide +kernel
  have el : (mkS [97]).length = 1 := rfl
  have el2 : (mkS [97]).length ≤ 2 := Nat.le_of_ble_eq_true rfl
  have hsz : (mkS [97, 46, 46, 46, 97]).length + 2 ≤ sizeLine := by have := sizeLine_eq; simp [mkS, Str.length]; omega
  k_extra "mine start"
  k_steps
  k_extra "mine ret"
  rfl
open Builtin.Str in
theorem ellB_c (w mean mg mb) (t u : Tok) : Ctr w mean mg mb 83 [.str (mkS [97, 46, 46, 46]) t, .str (mkS [46, 97]) u] [] 1 (PBool false) := by
  have hB : Bnd [(Str.ofString "got", .str (mkS [46, 97]) u), (Str.ofString "want", .str (mkS [97, 46, 46, 46]) t)] := trivial
  have e1 : (!!(occurrences (mkS [97, 46, 46, 46]) (Str.ofString "...") 0 (mkS [97, 46, 46, 46]).length 1).isEmpty) = false := by decide +kernel
  have e2 : Txt.split (mkS [97, 46, 46, 46]) (Str.ofString "...") = [mkS [97], mkS []] := by decide +kernel
  have f1 : Txt.startswith (mkS [46, 97]) (mkS [97]) = false := by decide +kernel
  have el : (mkS [97]).length = 1 := rfl
  have el2 : (mkS [46, 97]).length ≤ 2 := Nat.le_of_ble_eq_true rfl
  have hsz : (mkS [97, 46, 46, 46]).length + 2 ≤ sizeLine := by have := sizeLine_eq; simp [mkS, Str.length]; omega
  k_extra "mine start"
  k_steps
  k_extra "mine ret"
  rfl
open Builtin.Str in
theorem ellC_c (w mean mg mb) (t u : Tok) : Ctr w mean mg mb 83 [.str (mkS [46, 46, 46, 97]) t, .str (mkS [97, 46]) u] [] 1 (PBool false) := by
  have hB : Bnd [(Str.ofString "got", .str (mkS [97, 46]) u), (Str.ofString "want", .str (mkS [46, 46, 46, 97]) t)] := trivial
  have e1 : (!!(occurrences (mkS [46, 46, 46, 97]) (Str.ofString "...") 0 (mkS [46, 46, 46, 97]).length 1).isEmpty) = false := by decide +kernel
  have e2 : Txt.split (mkS [46, 46, 46, 97]) (Str.ofString "...") = [mkS [], mkS [97]] := by decide +kernel
  have f1 : Txt.endswith (mkS [97, 46]) (mkS [97]) = false := by decide +kernel
  have el : (mkS [97]).length = 1 := rfl
  have el2 : (mkS [97, 46]).length ≤ 2 := Nat.le_of_ble_eq_true rfl
  have hsz : (mkS [46, 46, 46, 97]).length + 2 ≤ sizeLine := by have := sizeLine_eq; simp [mkS, Str.length]; omega
  k_extra "mine start"
  k_steps
  k_extra "mine ret"
  rfl
end
section
section
variable {M : Model} {A : Around} {E : Value → Shared → Prop} {s : Shared} {env : Env}
/-- the frame of a comprehension whose variable is a cell -/
theorem newEnv_cell {scope : Scope} {cl : List (Str × Addr)} {x : Str} {Q : Env → Shared → Prop} (hcs : ∀ n, cellsFrom n scope.names cl = (x, n) :: cl) (hpc : ∀ h, pushCells h scope.names = h.push { cls := .type "cell", data := .cell none })
    (h : Q { scope, locals := s.heap.objs.size, globals := env.globals, cells := (x, s.heap.objs.size + 1) :: cl, qual := env.qual, func := none, code := env.code, frame := env.frame, builtins := env.builtins }
      { s with heap := (s.heap.push { cls := .type "dict", data := .dict #[] }).push { cls := .type "cell", data := .cell none } }) :
    wpAny M A (newFunctionEnv scope env.globals cl [] env.qual none .none (some env)) Q E s := by
  simp only [newFunctionEnv, Option.isSome_some, if_true]
  refine wpAny_bind (wpAny_alloc ?_)
  refine wpAny_bind (wpAny_layCells _ (fun name kind cells => by cases hkc : kind == NameKind.cell <;> simp [hkc]) _ _ _ _ ?_)
  rw [hpc, hcs]
  rw [show ({ s with heap := s.heap.push { cls := .type "dict", data := .dict #[] } } : Shared).heap.objs.size = s.heap.objs.size + 1 from Heap.size_push ..]
  refine wpAny_bind ?_
  rw [List.forIn_nil]
  exact wpAny_pure (wpAny_pure h)
end
/-- the end of a turn: one new object -/
noncomputable def CompEndC (h₀ : Heap) (L : Addr) (m : Str → Option Value) (s₁ : Shared) (old : List (Addr × Obj)) (rest : Addr → Obj → Prop) (y : Value) (s₂ : Shared) : Prop :=
  ∃ h' tk r o, s₂ = { s₁ with heap := h', toks := tk } ∧ y = .ref r ∧ Fr h₀ L h' m ∧ News h₀ L h' ((r, o) :: old) ∧ LCg.Off1 r old ∧ rest r o
theorem CompEndC.intro {h₀ : Heap} {L : Addr} {m : Str → Option Value} {s₁ : Shared} {old : List (Addr × Obj)} {rest : Addr → Obj → Prop} {h' : Heap} {tk : Nat} {r : Addr} {o : Obj} (F : Fr h₀ L h' m) (N : News h₀ L h' ((r, o) :: old)) (off : LCg.Off1 r old) (q : rest r o) :
    CompEndC h₀ L m s₁ old rest (.ref r) { s₁ with heap := h', toks := tk } := ⟨h', tk, r, o, rfl, rfl, F, N, off, q⟩
noncomputable def CompRestC (prog : Program) (w : World) (A : Around) (h₀ : Heap) (L : Addr) (m : Str → Option Value) (env : Env) (elt : Expr) (x : Str) (scope : Scope) (cl : List (Str × Addr)) (s : Shared) (P : Nat → Value → Prop)
    (Fin : List Value → List (Addr × Obj) → Prop) : Nat → Nat → List Value → List (Addr × Obj) → Prop
  | 0, _, ys, news => Fin ys news
  | k + 1, i, ys, news => ∀ v I oI C oC K oK D h tk (E' : Value → Shared → Prop), P i v → oK.data = .cell (some v) → Fr h₀ L h m → News h₀ L h ((I, oI) :: (C, oC) :: (K, oK) :: (D, LCg.lst ys) :: news) →
      LCg.Off3 I C D news → LCg.Off1 K news → ((@Ne Nat I C) ∧ (@Ne Nat I K) ∧ (@Ne Nat I D) ∧ (@Ne Nat C K) ∧ (@Ne Nat C D) ∧ (@Ne Nat K D)) →
      wpAny (model prog w) A (eval elt (compEnvC scope ((x, K) :: cl) C env)) (CompEndC h₀ L m { s with heap := h, toks := tk } ((I, oI) :: (C, oC) :: (K, oK) :: (D, LCg.lst ys) :: news) (fun r o => CompRestC prog w A h₀ L m env elt x scope cl s P Fin k (i + 1) (ys ++ [.ref r]) ((r, o) :: news))) E' { s with heap := h, toks := tk }
theorem off1_mem {D : Addr} : ∀ {l : List (Addr × Obj)}, LCg.Off1 D l → ∀ p ∈ l, p.1 ≠ D
  | [], _, _, h => nomatch h
  | _ :: _, x, p, h => by
    rcases List.mem_cons.mp h with rfl | h
    · exact x.1
    · exact off1_mem x.2 p h
theorem off1_of {D : Addr} : ∀ {l : List (Addr × Obj)}, (∀ p ∈ l, p.1 ≠ D) → LCg.Off1 D l
  | [], _ => trivial
  | _ :: _, h => ⟨h _ List.mem_cons_self, off1_of fun p hp => h p (List.mem_cons_of_mem _ hp)⟩
section
variable {prog : Program} {w : World} {A : Around} {E : Value → Shared → Prop} {s : Shared} {h₀ : Heap} {L : Addr} {m : Str → Option Value} {env : Env}
theorem block_C {elt iter : Expr} {x : Str} {px : Pos} {scope : Scope} {cl : List (Str × Addr)} {pos : Pos} {s₂ : Shared} {ax : Addr} {its : Array Value} {lo : Obj} {news : List (Addr × Obj)} {Fin : List Value → List (Addr × Obj) → Prop} {RR : Value → Addr → Result → Shared → Prop} {I : Addr}
    (hh : A.handled = none) (hsz : its.size ≤ sizeLine) (hI : s₂.heap.IsListIter I ax 0) (hIa : ax ≠ I) (hlo : ∀ h : Heap, h.get? ax = some lo → h.IsList ax its) (hmem : (ax, lo) ∈ news)
    (hcs : ∀ n, cellsFrom n scope.names cl = (x, n) :: cl) (hpc : ∀ h, pushCells h scope.names = h.push { cls := .type "cell", data := .cell none }) (hkind : scope.kind = .function) (hx : (relabel scope env).names.lookup x = some .cell)
    (F : Fr h₀ L s₂.heap m) (N : News h₀ L s₂.heap news) (hIL : L ≠ I) (hI₀ : h₀.get? I = none) (off : ∀ p ∈ news, p.1 ≠ I)
    (R : CompRestC prog w A h₀ L m env elt x scope cl s₂ (fun i v => its[i]? = some v) Fin its.size 0 [] news)
    (hRR : ∀ D C h tk m' ys news', Fr h₀ L h m → News h₀ L h ((D, LCg.lst ys) :: news') → LCg.Off1 D news' → h.Ns C m' → h₀.get? C = none → C ≠ L → C ≠ D → (∀ p ∈ news', p.1 ≠ C) → Fin ys news' → RR (.ref D) C (.ok .next) { s₂ with heap := h, toks := tk }) :
    wpAny (model prog w) A (newList []) (fun acc s₃ => wpAny (model prog w) A (newFunctionEnv scope env.globals cl [] env.qual none .none (some env)) (fun cenv s₄ =>
      codeAny (model prog w) A (.compStart (.ListComp elt [⟨.Name x px, iter, [], 0⟩] scope pos) 0 (.ref I) acc { cenv with scope := relabel scope env }) (RR acc cenv.locals) s₄) E s₃) E s₂ := by
  have W := Walks.list (prog := prog) (w := w) hh I ax hIa its
  refine wpAny_newObj_type (newEnv_cell hcs hpc ?_)
  dsimp only
  obtain ⟨D, hD⟩ : ∃ D, D = s₂.heap.objs.size := ⟨_, rfl⟩
  have hz1 : (s₂.heap.push { cls := .type "list", data := .seq ([] : List Value).toArray }).objs.size = D + 1 := by rw [Heap.size_push, hD]
  rw [hz1, ← hD]
  generalize hh1 : ((s₂.heap.push { cls := .type "list", data := .seq ([] : List Value).toArray }).push { cls := .type "dict", data := .dict #[] }).push { cls := .type "cell", data := .cell none } = h₁
  have hz2 : ((s₂.heap.push { cls := .type "list", data := .seq ([] : List Value).toArray }).push { cls := .type "dict", data := .dict #[] }).objs.size = D + 1 + 1 := by rw [Heap.size_push, hz1]
  have old : ∀ b o, s₂.heap.get? b = some o → h₁.get? b = some o := fun b o e => by
    rw [← hh1]; exact Heap.get?_push_of_some _ (Heap.get?_push_of_some _ (Heap.get?_push_of_some _ e))
  have hacc : h₁.get? D = some (LCg.lst []) := by
    rw [← hh1, hD]; exact Heap.get?_push_of_some _ (Heap.get?_push_of_some _ (Heap.get?_push_size _ rfl))
  have hns : h₁.Ns (D + 1) (fun _ => none) := by
    rw [← hh1, ← hz1]; exact (Heap.Ns.new _ (.type "dict")).keeps fun b o e => Heap.get?_push_of_some _ e
  have hcell : h₁.get? (D + 1 + 1) = some { cls := .type "cell", data := .cell none } := by
    rw [← hh1, ← hz2]; exact Heap.get?_push_size _ rfl
  have fresh₀ : ∀ a, D ≤ a → h₀.get? a = none := fun a ha => by
    cases e : h₀.get? a with
    | none => rfl
    | some o' => have := Heap.lt_size (F.keep a o' e); rw [← hD] at this; exact absurd this (Nat.not_lt.mpr ha)
  have lt : ∀ {b o}, s₂.heap.get? b = some o → b < D := fun e => by rw [hD]; exact Heap.lt_size e
  have hLlt : L < D := by rw [hD]; exact F.ns.lt
  obtain ⟨oI₀, hI0, _⟩ := id hI
  have hIlt : I < D := lt hI0
  have hnlt : ∀ p ∈ news, p.1 < D := fun p hp => lt (N p hp).1
  have ne : ∀ {a b : Nat}, a < D → D ≤ b → a ≠ b := fun h1 h2 => by omega
  have d1 : D ≤ D + 1 := by omega
  have d2 : D ≤ D + 1 + 1 := by omega
  have e01 : @Ne Nat D (D + 1) := by omega
  have e02 : @Ne Nat D (D + 1 + 1) := by omega
  have e12 : @Ne Nat (D + 1) (D + 1 + 1) := by omega
  have loop : ∀ s₃ : Shared, s₃ = { s₂ with heap := h₁ } → codeAny (model prog w) A (.compLoop (.ListComp elt [⟨.Name x px, iter, [], 0⟩] scope pos) 0 (.ref I) (.ref D) (compEnvC scope ((x, D + 1 + 1) :: cl) (D + 1) env)) (RR (.ref D) (D + 1)) s₃ := by
    rintro s₃ rfl
    refine codeAny_compLoop_tests
      (fun k s' => ∃ h' tk i ys m' oK v₀ news', s' = { s₂ with heap := h', toks := tk } ∧ i ≤ its.size ∧ k = its.size + 1 - i ∧ ys.length = i ∧ h'.IsListIter I ax i ∧ (ax, lo) ∈ news' ∧ Fr h₀ L h' m ∧ h'.Ns (D + 1) m' ∧
        h'.get? (D + 1 + 1) = some oK ∧ oK.data = .cell v₀ ∧ News h₀ L h' ((D, LCg.lst ys) :: news') ∧ (∀ p ∈ news', p.1 ≠ I ∧ p.1 ≠ D + 1 ∧ p.1 ≠ D + 1 + 1 ∧ p.1 ≠ D) ∧ CompRestC prog w A h₀ L m env elt x scope cl s₂ (fun i v => its[i]? = some v) Fin (its.size - i) i ys news') ?_ (its.size + 1)
      ⟨h₁, _, 0, [], _, _, none, news, rfl, Nat.zero_le _, rfl, rfl, hI.at fun o e => old _ o e, hmem, F.keeps old, hns, hcell, rfl, fun p hp => ?_, fun p hp => ⟨off p hp, ne (hnlt p hp) d1, ne (hnlt p hp) d2, ne (hnlt p hp) (Nat.le_refl _)⟩, R⟩
    · intro k s' hst
      refine named ?_
      intro Gn kn
      obtain ⟨h', tk, i, ys, m', oK, v₀, news', rfl, hi, rfl, hyl, hit, hm', F', hn', hK, hKd, N', off', R'⟩ := hst
      refine kn ?_
      have hlist : h'.IsList ax its := hlo h' (N' _ (.tail _ hm')).1
      by_cases hlt : i < its.size
      · obtain ⟨j, hj⟩ : ∃ j, its.size - i = j + 1 := ⟨its.size - i - 1, by omega⟩
        rw [hj] at R'
        refine W.item i _ _ _ hlt ⟨hit, hlist⟩ fun v h₂ tk₂ hPv hst₂ hk₂ => ?_
        have k2 : ∀ b o, b ≠ I → h'.get? b = some o → h₂.get? b = some o := fun b o hb e => hk₂ b o (by simpa using hb) e
        refine wpAny_assign_Name (wpAny_storeName_cell (c := D + 1 + 1) (by exact hkind) hx (by simp [compEnvC, List.lookup_cons]) ⟨oK, k2 _ _ (Ne.symm (ne hIlt d2)) hK, hKd⟩ fun h₃ hv₃ hs₃ => ?_)
        refine wpAny_tests_nil ?_
        simp only [if_true]
        refine named ?_
        intro Gp kp
        have k3 : ∀ b o, b ≠ I → b ≠ D + 1 + 1 → h'.get? b = some o → h₃.get? b = some o := fun b o h1 h2 e => hs₃.extBut b o h2 (k2 b o h1 e)
        obtain ⟨oK', hK', hKd'⟩ := hv₃
        have hit₃ : h₃.IsListIter I ax (i + 1) := hst₂.1.at fun o e => hs₃.extBut _ o (ne hIlt d2) e
        obtain ⟨oI, heI, _⟩ := id hit₃
        have hn₃ : h₃.Ns (D + 1) m' := hn'.at' fun o e => k3 _ o (Ne.symm (ne hIlt d1)) e12 e
        obtain ⟨oC, heC, hoC⟩ := LCg.ns_obj hn₃
        have F₃ : Fr h₀ L h₃ m := ⟨F'.ns.at' fun o e => k3 L o hIL (ne hLlt d2) e, fun b o e => k3 b o (fun q => by rw [q, hI₀] at e; cases e) (fun q => by rw [q, fresh₀ _ d2] at e; cases e) (F'.keep b o e), F'.above⟩
        have hL' : L ≠ D + 1 := ne hLlt d1
        have hL'' : L ≠ D + 1 + 1 := ne hLlt d2
        have N₃ : News h₀ L h₃ ((I, oI) :: (D + 1, oC) :: (D + 1 + 1, oK') :: (D, LCg.lst ys) :: news') := fun p hp => by
          rcases List.mem_cons.mp hp with rfl | hp
          · exact ⟨heI, Ne.symm hIL, hI₀⟩
          rcases List.mem_cons.mp hp with rfl | hp
          · exact ⟨heC, Ne.symm hL', fresh₀ _ d1⟩
          rcases List.mem_cons.mp hp with rfl | hp
          · exact ⟨hK', Ne.symm hL'', fresh₀ _ d2⟩
          have z := N' p hp
          refine ⟨k3 _ _ ?_ ?_ z.1, z.2⟩
          · rcases List.mem_cons.mp hp with rfl | hp
            · exact Ne.symm (ne hIlt (Nat.le_refl _))
            · exact (off' p hp).1
          · rcases List.mem_cons.mp hp with rfl | hp
            · exact e02
            · exact (off' p hp).2.2.1
        refine kp ?_
        refine wpAny_mono (R' v I oI (D + 1) oC (D + 1 + 1) oK' D h₃ _ _ hPv hKd' F₃ N₃ (LCg.Off3.of fun p hp => ⟨(off' p hp).1, (off' p hp).2.1, (off' p hp).2.2.2⟩) (off1_of fun p hp => (off' p hp).2.2.1)
          ⟨ne hIlt d1, ne hIlt d2, ne hIlt (Nat.le_refl _), e12, Ne.symm e01, Ne.symm e02⟩) (fun y s₄ h₄ => ?_) fun _ _ e => e
        refine named ?_
        intro Gm km
        obtain ⟨h₄, tk₄, r, o, rfl, rfl, F₄, N₄, off₄, R₄⟩ := h₄
        refine km ?_
        have off4 := off1_mem off₄
        have zI := (N₄ (I, oI) (memk 1 rfl)).1
        have zC := (N₄ (D + 1, oC) (memk 2 rfl)).1
        have zK := (N₄ (D + 1 + 1, oK') (memk 3 rfl)).1
        have zD := (N₄ (D, LCg.lst ys) (memk 4 rfl)).1
        have hrD : D ≠ r := off4 (D, LCg.lst ys) (memk 3 rfl)
        refine append_at (hsz := by show ys.toArray.size ≤ sizeLine; rw [List.size_toArray, hyl]; exact Nat.le_trans hi hsz) zD fun h₅ hs₅ hD₅ => ?_
        have hit₄ : h₄.IsListIter I ax (i + 1) := hit₃.at fun o e => by rw [heI] at e; cases e; exact zI
        refine ⟨its.size + 1 - (i + 1), by omega, h₅, tk₄, i + 1, ys ++ [.ref r], _, oK', some v, (r, o) :: news', rfl, hlt, rfl, by rw [List.length_append, List.length_singleton, hyl], hit₄.at fun o e => hs₅.extBut _ o (ne hIlt (Nat.le_refl _)) e,
          .tail _ hm', F₄.change hs₅ (Ne.symm (ne hLlt (Nat.le_refl _))) (fresh₀ _ (Nat.le_refl _)), (hoC.ns zC).sameBut hs₅ (Ne.symm e01), hs₅.extBut _ _ (Ne.symm e02) zK, hKd', fun p hp => ?_, fun p hp => ?_, ?_⟩
        · rcases List.mem_cons.mp hp with rfl | hp
          · exact ⟨hD₅.trans (congrArg some (LCg.lst_snoc ys _)), Ne.symm (ne hLlt (Nat.le_refl _)), fresh₀ _ (Nat.le_refl _)⟩
          · rcases List.mem_cons.mp hp with rfl | hp
            · have z := N₄ (r, o) (memk 0 rfl)
              exact ⟨hs₅.extBut _ _ (Ne.symm hrD) z.1, z.2⟩
            · have z := N₄ p (.tail _ (.tail _ (.tail _ (.tail _ (.tail _ hp)))))
              exact ⟨hs₅.extBut _ _ (off' p hp).2.2.2 z.1, z.2⟩
        · rcases List.mem_cons.mp hp with rfl | hp
          · exact ⟨Ne.symm (off4 (I, oI) (memk 0 rfl)), Ne.symm (off4 (D + 1, oC) (memk 1 rfl)), Ne.symm (off4 (D + 1 + 1, oK') (memk 2 rfl)), Ne.symm hrD⟩
          · exact off' p hp
        · rw [show its.size - (i + 1) = j by omega]
          exact R₄
      · obtain rfl : i = its.size := Nat.le_antisymm hi (Nat.not_lt.mp hlt)
        rw [Nat.sub_self] at R'
        refine W.done _ _ _ ⟨hit, hlist⟩ fun h₂ tk₂ hk₂ => ?_
        have k2 : ∀ b o, b ≠ I → h'.get? b = some o → h₂.get? b = some o := fun b o hb e => hk₂ b o (by simpa using hb) e
        refine hRR D (D + 1) h₂ tk₂ _ ys news' ⟨F'.ns.at' fun o e => k2 L o hIL e, fun b o e => k2 b o (fun q => by rw [q, hI₀] at e; cases e) (F'.keep b o e), F'.above⟩ (fun p hp => ?_) (off1_of fun p hp => (off' p hp).2.2.2)
          (hn'.at' fun o e => k2 _ o (Ne.symm (ne hIlt d1)) e) (fresh₀ _ d1) (Ne.symm (ne hLlt d1)) (Ne.symm e01) (fun p hp => (off' p hp).2.1) R'
        have z := N' p hp
        refine ⟨k2 _ _ ?_ z.1, z.2⟩
        rcases List.mem_cons.mp hp with rfl | hp
        · exact Ne.symm (ne hIlt (Nat.le_refl _))
        · exact (off' p hp).1
    · rcases List.mem_cons.mp hp with rfl | hp
      · exact ⟨hacc, Ne.symm (ne hLlt (Nat.le_refl _)), fresh₀ _ (Nat.le_refl _)⟩
      · exact ⟨old _ _ (N p hp).1, (N p hp).2⟩
  exact codeAny_compStart_list (loop _ rfl) (W.self 0 _ _ _ ⟨hI.at fun o e => old _ o e, hlo h₁ (old _ _ (N _ hmem).1)⟩ (loop _ rfl))
end
/-- the end of a turn: the ledger stands -/
noncomputable def CompEndP (h₀ : Heap) (L : Addr) (m : Str → Option Value) (s₁ : Shared) (old : List (Addr × Obj)) (rest : Value → Prop) (y : Value) (s₂ : Shared) : Prop :=
  ∃ h' tk, s₂ = { s₁ with heap := h', toks := tk } ∧ Fr h₀ L h' m ∧ News h₀ L h' old ∧ rest y
theorem CompEndP.intro {h₀ : Heap} {L : Addr} {m : Str → Option Value} {s₁ : Shared} {old : List (Addr × Obj)} {rest : Value → Prop} {h' : Heap} {tk : Nat} {y : Value} (F : Fr h₀ L h' m) (N : News h₀ L h' old) (q : rest y) :
    CompEndP h₀ L m s₁ old rest y { s₁ with heap := h', toks := tk } := ⟨h', tk, rfl, F, N, q⟩
/-- the turns of a comprehension over a local name; the count of tokens is above nought in each -/
noncomputable def CompRestP (prog : Program) (w : World) (A : Around) (h₀ : Heap) (L : Addr) (m : Str → Option Value) (env : Env) (elt : Expr) (x : Str) (scope : Scope) (cl : List (Str × Addr)) (s : Shared) (P : Nat → Value → Prop)
    (Fin : List Value → List (Addr × Obj) → Prop) (news : List (Addr × Obj)) : Nat → Nat → List Value → Prop
  | 0, _, ys => Fin ys news
  | k + 1, i, ys => ∀ v I oI C oC D m₂ h tk (E' : Value → Shared → Prop), 0 < tk → P i v → LCg.NsObj oC m₂ → m₂ x = some v → Fr h₀ L h m → News h₀ L h ((I, oI) :: (C, oC) :: (D, LCg.lst ys) :: news) →
      LCg.Off3 I C D news → ((@Ne Nat I C) ∧ (@Ne Nat I D) ∧ (@Ne Nat C D)) →
      wpAny (model prog w) A (eval elt (compEnvC scope cl C env)) (CompEndP h₀ L m { s with heap := h, toks := tk } ((I, oI) :: (C, oC) :: (D, LCg.lst ys) :: news) (fun y => CompRestP prog w A h₀ L m env elt x scope cl s P Fin news k (i + 1) (ys ++ [y]))) E' { s with heap := h, toks := tk }
section
variable {prog : Program} {w : World} {A : Around} {E : Value → Shared → Prop} {s : Shared} {h₀ : Heap} {L : Addr} {m : Str → Option Value} {env : Env}
theorem block_P {elt iter : Expr} {x : Str} {px : Pos} {scope : Scope} {cl : List (Str × Addr)} {pos : Pos} {s₂ : Shared} {ax : Addr} {its : Array Value} {lo : Obj} {news : List (Addr × Obj)} {Fin : List Value → List (Addr × Obj) → Prop} {RR : Value → Addr → Result → Shared → Prop} {I : Addr}
    (hh : A.handled = none) (hsz : its.size ≤ sizeLine) (hI : s₂.heap.IsListIter I ax 0) (hIa : ax ≠ I) (hlo : ∀ h : Heap, h.get? ax = some lo → h.IsList ax its) (hmem : (ax, lo) ∈ news)
    (hcell : ∀ y ∈ scope.names, y.2 ≠ .cell) (hkind : scope.kind = .function) (hx : scope.names.lookup x = some .local)
    (F : Fr h₀ L s₂.heap m) (N : News h₀ L s₂.heap news) (hIL : L ≠ I) (hI₀ : h₀.get? I = none) (off : ∀ p ∈ news, p.1 ≠ I)
    (R : CompRestP prog w A h₀ L m env elt x scope cl s₂ (fun i v => its[i]? = some v) Fin news its.size 0 [])
    (hRR : ∀ D C h tk m' ys, Fr h₀ L h m → News h₀ L h ((D, LCg.lst ys) :: news) → LCg.Off1 D news → h.Ns C m' → h₀.get? C = none → C ≠ L → C ≠ D → (∀ p ∈ news, p.1 ≠ C) → Fin ys news → RR (.ref D) C (.ok .next) { s₂ with heap := h, toks := tk }) :
    wpAny (model prog w) A (newList []) (fun acc s₃ => wpAny (model prog w) A (newFunctionEnv scope env.globals cl [] env.qual none .none (some env)) (fun cenv s₄ =>
      codeAny (model prog w) A (.compStart (.ListComp elt [⟨.Name x px, iter, [], 0⟩] scope pos) 0 (.ref I) acc { cenv with scope := relabel scope env }) (RR acc cenv.locals) s₄) E s₃) E s₂ := by
  have W := Walks.list (prog := prog) (w := w) hh I ax hIa its
  refine wpAny_newObj_type (wpAny_newFunctionEnv hcell (by intro y hy; simp at hy) (fun h₁ hns hsb => ?_) hkind)
  dsimp only at hns hsb ⊢
  obtain ⟨D, hD⟩ : ∃ D, D = s₂.heap.objs.size := ⟨_, rfl⟩
  have hz1 : (s₂.heap.push { cls := .type "list", data := .seq ([] : List Value).toArray }).objs.size = D + 1 := by rw [Heap.size_push, hD]
  rw [hz1] at hns hsb ⊢
  rw [← hD]
  have e01 : @Ne Nat D (D + 1) := by omega
  have old : ∀ b o, s₂.heap.get? b = some o → h₁.get? b = some o := fun b o e => by
    refine hsb.extBut b o ?_ (Heap.get?_push_of_some _ (Heap.get?_push_of_some _ e))
    have h1 : b < D := by rw [hD]; exact Heap.lt_size e
    exact Nat.ne_of_lt (Nat.lt_succ_of_lt h1)
  have hacc : h₁.get? D = some (LCg.lst []) := hsb.extBut _ _ e01 (by rw [hD]; exact Heap.get?_push_of_some _ (Heap.get?_push_size _ rfl))
  have fresh₀ : ∀ a, D ≤ a → h₀.get? a = none := fun a ha => by
    cases e : h₀.get? a with
    | none => rfl
    | some o' => have := Heap.lt_size (F.keep a o' e); rw [← hD] at this; exact absurd this (Nat.not_lt.mpr ha)
  have lt : ∀ {b o}, s₂.heap.get? b = some o → b < D := fun e => by rw [hD]; exact Heap.lt_size e
  have hLlt : L < D := by rw [hD]; exact F.ns.lt
  obtain ⟨oI₀, hI0, _⟩ := id hI
  have hIlt : I < D := lt hI0
  have hnlt : ∀ p ∈ news, p.1 < D := fun p hp => lt (N p hp).1
  have ne : ∀ {a b : Nat}, a < D → D ≤ b → a ≠ b := fun h1 h2 => by omega
  have d1 : D ≤ D + 1 := by omega
  have off' : ∀ p ∈ news, p.1 ≠ I ∧ p.1 ≠ D + 1 ∧ p.1 ≠ D := fun p hp => ⟨off p hp, ne (hnlt p hp) d1, ne (hnlt p hp) (Nat.le_refl _)⟩
  have loop : ∀ s₃ : Shared, s₃ = { s₂ with heap := h₁, toks := s₂.toks + ([] : List (Str × Value)).length } → codeAny (model prog w) A (.compLoop (.ListComp elt [⟨.Name x px, iter, [], 0⟩] scope pos) 0 (.ref I) (.ref D) (compEnvC scope cl (D + 1) env)) (RR (.ref D) (D + 1)) s₃ := by
    rintro s₃ rfl
    refine codeAny_compLoop_tests
      (fun k s' => ∃ h' tk i ys m', s' = { s₂ with heap := h', toks := tk } ∧ i ≤ its.size ∧ k = its.size + 1 - i ∧ ys.length = i ∧ h'.IsListIter I ax i ∧ Fr h₀ L h' m ∧ h'.Ns (D + 1) m' ∧
        News h₀ L h' ((D, LCg.lst ys) :: news) ∧ CompRestP prog w A h₀ L m env elt x scope cl s₂ (fun i v => its[i]? = some v) Fin news (its.size - i) i ys) ?_ (its.size + 1)
      ⟨h₁, _, 0, [], _, rfl, Nat.zero_le _, rfl, rfl, hI.at fun o e => old _ o e, F.keeps old, hns, fun p hp => ?_, R⟩
    · intro k s' hst
      refine named ?_
      intro Gn kn
      obtain ⟨h', tk, i, ys, m', rfl, hi, rfl, hyl, hit, F', hn', N', R'⟩ := hst
      refine kn ?_
      have hlist : h'.IsList ax its := hlo h' (N' _ (.tail _ hmem)).1
      by_cases hlt : i < its.size
      · obtain ⟨j, hj⟩ : ∃ j, its.size - i = j + 1 := ⟨its.size - i - 1, by omega⟩
        rw [hj] at R'
        refine W.item i _ _ _ hlt ⟨hit, hlist⟩ fun v h₂ tk₂ hPv hst₂ hk₂ => ?_
        have k2 : ∀ b o, b ≠ I → h'.get? b = some o → h₂.get? b = some o := fun b o hb e => hk₂ b o (by simpa using hb) e
        refine wpAny_assign_Name (wpAny_storeName_local (lookup_relabel_local hx) (hn'.at' fun o e => k2 _ o (Ne.symm (ne hIlt d1)) e) (fun h₃ hn₃ hs₃ => ?_) (by simp [compEnvC, relabel, hkind]))
        refine wpAny_tests_nil ?_
        simp only [if_true]
        refine named ?_
        intro Gp kp
        have k3 : ∀ b o, b ≠ I → b ≠ D + 1 → h'.get? b = some o → h₃.get? b = some o := fun b o h1 h2 e => hs₃.extBut b o h2 (k2 b o h1 e)
        have hit₃ : h₃.IsListIter I ax (i + 1) := hst₂.1.at fun o e => hs₃.extBut _ o (ne hIlt d1) e
        obtain ⟨oI, heI, _⟩ := id hit₃
        obtain ⟨oC, heC, hoC⟩ := LCg.ns_obj hn₃
        have hL' : L ≠ D + 1 := ne hLlt d1
        have F₃ : Fr h₀ L h₃ m := ⟨F'.ns.at' fun o e => k3 L o hIL hL' e, fun b o e => k3 b o (fun q => by rw [q, hI₀] at e; cases e) (fun q => by rw [q, fresh₀ _ d1] at e; cases e) (F'.keep b o e), F'.above⟩
        have N₃ : News h₀ L h₃ ((I, oI) :: (D + 1, oC) :: (D, LCg.lst ys) :: news) := fun p hp => by
          rcases List.mem_cons.mp hp with rfl | hp
          · exact ⟨heI, Ne.symm hIL, hI₀⟩
          rcases List.mem_cons.mp hp with rfl | hp
          · exact ⟨heC, Ne.symm hL', fresh₀ _ d1⟩
          have z := N' p hp
          refine ⟨k3 _ _ ?_ ?_ z.1, z.2⟩
          · rcases List.mem_cons.mp hp with rfl | hp
            · exact Ne.symm (ne hIlt (Nat.le_refl _))
            · exact (off' p hp).1
          · rcases List.mem_cons.mp hp with rfl | hp
            · exact e01
            · exact (off' p hp).2.1
        refine kp ?_
        refine wpAny_mono (R' v I oI (D + 1) oC D _ h₃ _ _ (Nat.succ_pos _) hPv hoC (by simp) F₃ N₃ (LCg.Off3.of off') ⟨ne hIlt d1, ne hIlt (Nat.le_refl _), Ne.symm e01⟩) (fun y s₄ h₄ => ?_) fun _ _ e => e
        refine named ?_
        intro Gm km
        obtain ⟨h₄, tk₄, rfl, F₄, N₄, R₄⟩ := h₄
        refine km ?_
        have zI := (N₄ (I, oI) (memk 0 rfl)).1
        have zC := (N₄ (D + 1, oC) (memk 1 rfl)).1
        have zD := (N₄ (D, LCg.lst ys) (memk 2 rfl)).1
        refine append_at (hsz := by show ys.toArray.size ≤ sizeLine; rw [List.size_toArray, hyl]; exact Nat.le_trans hi hsz) zD fun h₅ hs₅ hD₅ => ?_
        have hit₄ : h₄.IsListIter I ax (i + 1) := hit₃.at fun o e => by rw [heI] at e; cases e; exact zI
        refine ⟨its.size + 1 - (i + 1), by omega, h₅, tk₄, i + 1, ys ++ [y], _, rfl, hlt, rfl, by rw [List.length_append, List.length_singleton, hyl], hit₄.at fun o e => hs₅.extBut _ o (ne hIlt (Nat.le_refl _)) e,
          F₄.change hs₅ (Ne.symm (ne hLlt (Nat.le_refl _))) (fresh₀ _ (Nat.le_refl _)), (hoC.ns zC).sameBut hs₅ (Ne.symm e01), fun p hp => ?_, ?_⟩
        · rcases List.mem_cons.mp hp with rfl | hp
          · exact ⟨hD₅.trans (congrArg some (LCg.lst_snoc ys _)), Ne.symm (ne hLlt (Nat.le_refl _)), fresh₀ _ (Nat.le_refl _)⟩
          · have z := N₄ p (.tail _ (.tail _ (.tail _ hp)))
            exact ⟨hs₅.extBut _ _ (off' p hp).2.2 z.1, z.2⟩
        · rw [show its.size - (i + 1) = j by omega]
          exact R₄
      · obtain rfl : i = its.size := Nat.le_antisymm hi (Nat.not_lt.mp hlt)
        rw [Nat.sub_self] at R'
        refine W.done _ _ _ ⟨hit, hlist⟩ fun h₂ tk₂ hk₂ => ?_
        have k2 : ∀ b o, b ≠ I → h'.get? b = some o → h₂.get? b = some o := fun b o hb e => hk₂ b o (by simpa using hb) e
        refine hRR D (D + 1) h₂ tk₂ _ ys ⟨F'.ns.at' fun o e => k2 L o hIL e, fun b o e => k2 b o (fun q => by rw [q, hI₀] at e; cases e) (F'.keep b o e), F'.above⟩ (fun p hp => ?_) (off1_of fun p hp => (off' p hp).2.2)
          (hn'.at' fun o e => k2 _ o (Ne.symm (ne hIlt d1)) e) (fresh₀ _ d1) (Ne.symm (ne hLlt d1)) (Ne.symm e01) (fun p hp => (off' p hp).2.1) R'
        have z := N' p hp
        refine ⟨k2 _ _ ?_ z.1, z.2⟩
        rcases List.mem_cons.mp hp with rfl | hp
        · exact Ne.symm (ne hIlt (Nat.le_refl _))
        · exact (off' p hp).1
    · rcases List.mem_cons.mp hp with rfl | hp
      · exact ⟨hacc, Ne.symm (ne hLlt (Nat.le_refl _)), fresh₀ _ (Nat.le_refl _)⟩
      · exact ⟨old _ _ (N p hp).1, (N p hp).2⟩
  exact codeAny_compStart_list (loop _ rfl) (W.self 0 _ _ _ ⟨hI.at fun o e => old _ o e, hlo h₁ (old _ _ (N _ hmem).1)⟩ (loop _ rfl))
noncomputable def CSrcP (prog : Program) (w : World) (A : Around) (h₀ : Heap) (L : Addr) (m : Str → Option Value) (env : Env) (elt : Expr) (x : Str) (scope : Scope) (cl : List (Str × Addr)) (Fin : Shared → List Value → List (Addr × Obj) → Prop) (xv : Value) (s₁ : Shared) : Prop :=
  ∃ ax its n news, xv = .ref ax ∧ A.handled = none ∧ Fr h₀ L s₁.heap m ∧ News h₀ L s₁.heap news ∧ (ax, listOf its n) ∈ news ∧ its.size ≤ sizeLine ∧
    ∀ s₂ : Shared, (∃ h, s₂ = { s₁ with heap := h }) → CompRestP prog w A h₀ L m env elt x scope cl s₂ (fun i v => its[i]? = some v) (Fin s₂) news its.size 0 []
theorem CSrcP.at {elt : Expr} {x : Str} {scope : Scope} {cl : List (Str × Addr)} {Fin : Shared → List Value → List (Addr × Obj) → Prop} {ax : Addr} {its : Array Value} {n : Nat} {news : List (Addr × Obj)} {s₁ : Shared}
    (hh : A.handled = none) (F : Fr h₀ L s₁.heap m) (N : News h₀ L s₁.heap news) (hm : (ax, listOf its n) ∈ news) (hsz : its.size ≤ sizeLine)
    (h : ∀ g, CompRestP prog w A h₀ L m env elt x scope cl { s₁ with heap := g } (fun i v => its[i]? = some v) (Fin { s₁ with heap := g }) news its.size 0 []) :
    CSrcP prog w A h₀ L m env elt x scope cl Fin (.ref ax) s₁ := ⟨ax, its, n, news, rfl, hh, F, N, hm, hsz, fun _ ⟨g, e⟩ => e ▸ h g⟩
theorem comp_P {elt iter : Expr} {x : Str} {px : Pos} {scope : Scope} {cl : List (Str × Addr)} {pos : Pos} {Q : Value → Shared → Prop} (F₀ : Fr h₀ L s.heap m)
    (hclos : closureFor scope env = pure cl) (hcell : ∀ y ∈ scope.names, y.2 ≠ .cell) (hkind : scope.kind = .function)
    (hnames : ∀ y ∈ scope.names, y.2 = .local → scope.names.lookup y.1 = some .local) (hx : scope.names.lookup x = some .local)
    (h : wpAny (model prog w) A (eval iter env) (CSrcP prog w A h₀ L m env elt x scope cl (fun s₂ => LCg.FinE h₀ L m s₂ Q)) E s)
    (hs : ∀ x, foldedSetIterable iter env x = pure x := by intro _; rfl) :
    wpAny (model prog w) A (eval (.ListComp elt [⟨.Name x px, iter, [], 0⟩] scope pos) env) Q E s := by
  rw [eval_ListComp]
  refine wpAny_comprehension_free (use := none) rfl hs hclos hkind hnames (wpAny_mono h (fun xv s₁ h₁ => ?_) fun _ _ e => e)
  obtain ⟨ax, its, n, news, rfl, hh, F, N, hm, hsz, R⟩ := h₁
  have hlo : ∀ h : Heap, h.get? ax = some (listOf its n) → h.IsList ax its := fun h e => ⟨_, e, rfl, n, rfl⟩
  have hl := hlo _ (N _ hm).1
  have hlt : ax < s₁.heap.objs.size := Heap.lt_size (N _ hm).1
  refine wpAny_pyIter_list hl ?_
  have up : ∀ b o, s₁.heap.get? b = some o → (s₁.heap.push { cls := .type "list_iterator", data := .fields #[.ref ax, .int 0 0] }).get? b = some o := fun b o e => Heap.get?_push_of_some _ e
  refine block_P hh hsz ⟨_, Heap.get?_push_size _ rfl, rfl, rfl⟩ (Nat.ne_of_lt hlt) hlo hm hcell hkind hx (F.keeps up) (N.grown up) (Nat.ne_of_lt F.ns.lt) (next_is_new F) (fun p hp => Nat.ne_of_lt (Heap.lt_size (N p hp).1)) (R _ ⟨_, rfl⟩) ?_
  intro D C h tk m' ys F' N' o1 hn hC₀ hCL hCD offC fin
  refine ⟨m', hn, fun h'' hs'' => fin D h'' tk (F'.change hs'' hCL hC₀) (fun p hp => ?_) o1⟩
  refine ⟨hs''.extBut _ _ ?_ (N' p hp).1, (N' p hp).2⟩
  rcases List.mem_cons.mp hp with rfl | hp
  · exact Ne.symm hCD
  · exact offC p hp
noncomputable def CSrcC (prog : Program) (w : World) (A : Around) (h₀ : Heap) (L : Addr) (m : Str → Option Value) (env : Env) (elt : Expr) (x : Str) (scope : Scope) (cl : List (Str × Addr)) (Fin : Shared → List Value → List (Addr × Obj) → Prop) (xv : Value) (s₁ : Shared) : Prop :=
  ∃ ax its n news, xv = .ref ax ∧ A.handled = none ∧ Fr h₀ L s₁.heap m ∧ News h₀ L s₁.heap news ∧ (ax, listOf its n) ∈ news ∧ its.size ≤ sizeLine ∧
    ∀ s₂ : Shared, (∃ h, s₂ = { s₁ with heap := h }) → CompRestC prog w A h₀ L m env elt x scope cl s₂ (fun i v => its[i]? = some v) (Fin s₂) its.size 0 [] news
theorem CSrcC.at {elt : Expr} {x : Str} {scope : Scope} {cl : List (Str × Addr)} {Fin : Shared → List Value → List (Addr × Obj) → Prop} {ax : Addr} {its : Array Value} {n : Nat} {news : List (Addr × Obj)} {s₁ : Shared}
    (hh : A.handled = none) (F : Fr h₀ L s₁.heap m) (N : News h₀ L s₁.heap news) (hm : (ax, listOf its n) ∈ news) (hsz : its.size ≤ sizeLine)
    (h : ∀ g, CompRestC prog w A h₀ L m env elt x scope cl { s₁ with heap := g } (fun i v => its[i]? = some v) (Fin { s₁ with heap := g }) its.size 0 [] news) :
    CSrcC prog w A h₀ L m env elt x scope cl Fin (.ref ax) s₁ := ⟨ax, its, n, news, rfl, hh, F, N, hm, hsz, fun _ ⟨g, e⟩ => e ▸ h g⟩
theorem comp_C {elt iter : Expr} {x : Str} {px : Pos} {scope : Scope} {cl : List (Str × Addr)} {pos : Pos} {Q : Value → Shared → Prop} (F₀ : Fr h₀ L s.heap m)
    (hclos : closureFor scope env = pure cl) (hcs : ∀ n, cellsFrom n scope.names cl = (x, n) :: cl) (hpc : ∀ h, pushCells h scope.names = h.push { cls := .type "cell", data := .cell none }) (hkind : scope.kind = .function)
    (hnames : ∀ y ∈ scope.names, y.2 = .local → scope.names.lookup y.1 = some .local) (hx : (relabel scope env).names.lookup x = some .cell)
    (h : wpAny (model prog w) A (eval iter env) (CSrcC prog w A h₀ L m env elt x scope cl (fun s₂ => LCg.FinE h₀ L m s₂ Q)) E s)
    (hs : ∀ x, foldedSetIterable iter env x = pure x := by intro _; rfl) :
    wpAny (model prog w) A (eval (.ListComp elt [⟨.Name x px, iter, [], 0⟩] scope pos) env) Q E s := by
  rw [eval_ListComp]
  refine wpAny_comprehension_free (use := none) rfl hs hclos hkind hnames (wpAny_mono h (fun xv s₁ h₁ => ?_) fun _ _ e => e)
  obtain ⟨ax, its, n, news, rfl, hh, F, N, hm, hsz, R⟩ := h₁
  have hlo : ∀ h : Heap, h.get? ax = some (listOf its n) → h.IsList ax its := fun h e => ⟨_, e, rfl, n, rfl⟩
  have hl := hlo _ (N _ hm).1
  have hlt : ax < s₁.heap.objs.size := Heap.lt_size (N _ hm).1
  refine wpAny_pyIter_list hl ?_
  have up : ∀ b o, s₁.heap.get? b = some o → (s₁.heap.push { cls := .type "list_iterator", data := .fields #[.ref ax, .int 0 0] }).get? b = some o := fun b o e => Heap.get?_push_of_some _ e
  refine block_C hh hsz ⟨_, Heap.get?_push_size _ rfl, rfl, rfl⟩ (Nat.ne_of_lt hlt) hlo hm hcs hpc hkind hx (F.keeps up) (N.grown up) (Nat.ne_of_lt F.ns.lt) (next_is_new F) (fun p hp => Nat.ne_of_lt (Heap.lt_size (N p hp).1)) (R _ ⟨_, rfl⟩) ?_
  intro D C h tk m' ys news' F' N' o1 hn hC₀ hCL hCD offC fin
  refine ⟨m', hn, fun h'' hs'' => fin D h'' tk (F'.change hs'' hCL hC₀) (fun p hp => ?_) o1⟩
  refine ⟨hs''.extBut _ _ ?_ (N' p hp).1, (N' p hp).2⟩
  rcases List.mem_cons.mp hp with rfl | hp
  · exact Ne.symm hCD
  · exact offC p hp
end
end
section
theorem ksetP41_26 : True := by
  k_with_none
  k_with "mine enter" => (refine' code_defP ?mkb ?mk1 ?mk2 ?mk3 ?mk4 ?mk5 ?mkA ?mkF ?mkK ?mk6 ?mk7 ?mk8 ?mk9 ?mkB ?_ ?mc2 ?mc3 ?mc4 ?mc5; (case mkb => assumption); (case mkA => exact rfl); (case mkF => exact rfl); (case mkK => assumption); (case mk1 => k_asm); (case mk2 => k_asm); (case mk3 => k_asm); (case mk4 => k_asm); (case mk5 => k_asm); (case mk6 => k_is); (case mk7 => k_is); (case mk8 => ktr_room); (case mk9 => exact BindsTo.of_eq rfl); (case mc5 => decide); (case mkB => exact locs rfl); (case mc2 => exact rfl); (case mc3 => exact rfl); (case mc4 => exact rfl); k_whole; intro g'w L'w h'w hH'w FG'w F'w N'w B'w X'w T'w; (try simp only [List.reverse_cons, List.reverse_nil, List.nil_append, List.cons_append, List.length_cons, List.length_nil]); (try dsimp only); (try k_lift B'w); (try k_fold); refine cut ?_; intro qq'w hq'w; refine letA ?_; intro A1'w)
  k_with "mine start" => (w_top off; dsimp only [Ctr]; k_fill; intros; refine wpAny_call ?_; k_dflt (k_extra "mine enter"))
  k_with "mine keeps" => (refine' keeps_of ?mq1 ?mq2 ?mq3 ?mq4 ?mq5; (case mq1 => with_reducible assumption); (case mq2 => with_reducible assumption); (case mq3 => with_reducible assumption); (case mq4 => with_reducible assumption); (case mq5 => lcg_sub))
  k_with "mine off" => (first | exact List.forall_mem_nil _ | (refine List.forall_mem_cons.mpr ⟨?ma, ?mb⟩; (case ma => k_ne); (case mb => k_extra "mine off")))
  k_with "mine fresh" => (refine' fresh_of ?mq1 ?mq2 ?mq3 ?mq4; (case mq1 => with_reducible assumption); (case mq2 => with_reducible assumption); (case mq3 => k_mem); (case mq4 => k_extra "mine off"))
  k_with "mine ret" => ((rename RetOf _ _ _ => hR'w); refine' RetOf.at hR'w ?mkk ?_; (case mkk => k_extra "mine keeps"))
  k_with "mine tup3" => (k_extra "mine ret"; refine' ⟨_, _, _, _, rfl, ?mkf, ?mkg, ?_⟩; (case mkg => exact News.get (by with_reducible assumption) (by k_mem)); (case mkf => k_extra "mine fresh"))
  k_with "mine:execs cons" => (k_here; first | (refine' execs_cutL ?mhs ?mF ?mN ?_; (case mhs => first | (dsimp only; exact rfl) | dsimp only | exact rfl); (case mF => k_asm); (case mN => k_asm); intro m1'w n1'w F1'w N1'w q'w hq'w; try dsimp only at F1'w N1'w) | (refine' execs_cut ?_; intro q'w hq'w))
  k_with "mine:execs cons" => (k_here; (with_reducible show wpAny _ _ _ _ _ (Shared.mk _ _ _ (_ + _) _)); refine' gen_toks ?mhX ?_; (case mhX => omega); intro tk'w htk'w)
  k_with "mine:execs nil" => (k_here; (with_reducible show wpAny _ _ _ _ _ (Shared.mk _ _ _ (_ + _) _)); refine' gen_toks ?mhX ?_; (case mhX => omega); intro tk'w htk'w)
  k_with "mine units" => ((have hcL9 := cLine_is); (try simp +zetaDelta only [units_in1, units_deeper, Around.mark_units, units_caller]); (try dsimp +zetaDelta only [ktrTop]); omega)
  k_with "mine step" => (first | (k_unfold; (try dsimp only)) | (k_end; wrow_close) | walk1 | (dsimp only; walk1) | (leave1; walk_say "STEP leave1"; try dsimp only))
  k_with "mine ne" => (first | with_reducible assumption | (refine Ne.symm ?_; with_reducible assumption) | (refine Nat.ne_of_lt ?_; with_reducible assumption) | (refine Nat.ne_of_gt ?_; with_reducible assumption) | (refine neN ?_; (try dsimp only); (try simp only [ne_eq]); omega))
  k_with "mine:Held" => (refine Held.go (by with_reducible assumption) ?_; try dsimp only)
  k_with "mine offs" => (k_dflt ((rename LCg.Off1 _ _ => hq'w); refine Off1c.of hq'w ?_; clear hq'w; (repeat intro o2'w); refine ⟨?_⟩))
  k_with "mine:FinE" => ((unfold LCg.FinE); intro D'w h'w tk'w F'w N'w o1'w; (try simp only [List.nil_append, List.cons_append] at N'w o1'w); k_extra "mine offs"; (try dsimp only))
  k_with "mine:CompRest" => (with_unfolding_all first
    | (refine LCg.CompRest.succ ?_; intro v'w I'w oI'w C'w oC'w D'w m'w h'w tk'w E'w hv'w hC'w hx'w F'w N'w off'w ne'w; (first | lcg_open hv'w | (obtain ⟨t9'w, hv9'w⟩ := hv'w; subst hv9'w)); refine cut ?_; intro q4'w hq4'w)
    | refine LCg.CompRest.zero ?_)
  k_with "mine:CompRestT" => (with_unfolding_all first
    | (refine LCt.CompRestT.succ ?_; intro v'w I'w oI'w C'w oC'w D'w m'w h'w tk'w E'w hv'w hC'w hx'w F'w N'w off'w ne'w; (first | lcg_open hv'w | (obtain ⟨t9'w, hv9'w⟩ := hv'w; subst hv9'w)))
    | refine LCt.CompRestT.zero ?_)
  k_with "mine:CompEnd" => (refine LCg.CompEnd.intro (by k_asm) (by k_asm) _ (fun _ hp => hp) (by with_reducible assumption) (by lcg_src) ?_)
  k_with "mine arith" => (first | exact Nat.succ_pos _ | with_reducible assumption | (with_reducible exact ar_r0 (by assumption)) | (with_reducible exact ar_r2 (by assumption) (by decide)) | (with_reducible exact ar_r1 (by assumption) (by decide)) | (with_reducible exact ar_absC (by assumption) (by decide)) | (with_reducible exact ar_abs (by assumption) (by assumption) (by decide)) | (with_reducible exact ar_absN (by assumption) (by decide)) | (with_reducible exact ar_absM) | (with_reducible exact ar_absL (by assumption) (by decide)) | (with_reducible exact ar_cle (by assumption) (by decide)) | (with_reducible exact Int.natCast_nonneg _) | (with_reducible exact ar_min0) | (with_reducible exact ar_min1 (by decide)) | (with_reducible exact ar_sc (by assumption) (by decide)) | (with_reducible exact Nat.le_trans (by assumption) (by decide)) | decide)
  k_with "mine mem" => (first | exact memk 0 rfl | exact memk 1 rfl | exact memk 2 rfl | exact memk 3 rfl | exact memk 4 rfl | exact memk 5 rfl | exact memk 6 rfl | exact memk 7 rfl | exact memk 8 rfl | exact memk 9 rfl | exact memk 10 rfl | exact memk 11 rfl | exact memk 12 rfl | exact memk 13 rfl | exact memk 14 rfl | exact memk 15 rfl | exact memk 16 rfl | exact memk 17 rfl | exact memk 18 rfl | exact memk 19 rfl)
  k_with "mine same" => ((repeat (rename (¬ _) ∧ _ => hz'w; have hz1'w := And.left hz'w; have hz2'w := And.right hz'w; clear hz'w)); (repeat (first | with_reducible rfl | (refine (if_neg (by assumption)).trans ?_))))
  k_with "mine use" => ((case mk1 => k_asm); (case mk2 => k_asm); (case mk3 => k_asm); (case mk4 => k_asm); (case mk5 => k_asm); (case mk6 => exact rfl); (case mk7 => lcg_sub); (case mk8 => ktr_room); (case mk9 => units_room))
  k_with "mine:subscriptTail Name Constant ref int" => (k_here; (with_reducible show wpAny _ _ (subscriptTail _ _ (Value.ref _) (Value.int _ _)) _ _ _); kim_at)
  k_with "mine:subscriptTail Name Constant ref int" => (k_here; (with_reducible show wpAny _ _ (subscriptTail _ _ (Value.ref _) (Value.int _ _)) _ _ _); (with_unfolding_all refine' item_litK ?mk1 ?mk2 ?mk3 ?mk4 ?_ ?mk6; (case mk1 => is_list); (case mk2 => decide); (case mk3 => decide); (case mk4 => rfl); (case mk6 => with_unfolding_all rfl); k_whole))
  k_with "mine:binaryOp Div int int" => (k_here; (with_reducible refine' divI_r ?me ?mk1 ?mk2 ?mk3 ?_); (case me => first | assumption | exact rfl); (case mk1 => k_dflt rfl); (case mk2 => first | decide | omega); (case mk3 => omega); intro t'w)
  k_with "mine:binaryOp Mult float int" => (k_here; (with_reducible refine' mulFI_r ?me ?mk3 ?_); (case me => first | assumption | exact rfl); (case mk3 => omega); intro t'w)
  k_with "mine:binaryOp Mult int float" => (k_here; (with_reducible refine' mulIF_r ?me ?mk3 ?_); (case me => first | assumption | exact rfl); (case mk3 => omega); intro t'w)
  k_with "mine:call builtin:round" => (k_here; (with_reducible show wpAny _ _ (call (Value.builtin "round") [Value.float _ _]) _ _ _); (with_reducible refine' round_r ?mhf ?me ?mkh ?_); (case mhf => assumption); (case me => first | assumption | exact rfl); (case mkh => k_dflt rfl); intro t'w)
  k_with "mine:call builtin:max" => (k_here; first
    | ((with_reducible show wpAny _ _ (call (Value.builtin "max") [Value.ref _]) _ _ _); (with_reducible refine' max_l3 ?me ?mkh ?mk1 ?mk2 ?mk3 ?_); (case mk1 => k_asm); (case mk2 => k_asm); (case mk3 => k_dflt k_mem); (case me => assumption); (case mkh => k_dflt rfl); intro h'w tk'w t'w F'w N'w; (try k_sweep))
    | ((with_reducible show wpAny _ _ (call (Value.builtin "max") [Value.int _ _, Value.int _ _]) _ _ _); (with_reducible refine' max2_r ?me ?mkh ?mk1 ?mk2 ?_); (case mk1 => k_asm); (case mk2 => k_asm); (case me => first | assumption | exact rfl); (case mkh => k_dflt rfl); intro h'w tk'w t'w F'w N'w; (try k_sweep)))
  k_with "mine:call builtin:min" => (k_here; first
    | ((with_reducible show wpAny _ _ (call (Value.builtin "min") [Value.ref _]) _ _ _); (with_reducible refine' min_l3 ?me ?mkh ?mk1 ?mk2 ?mk3 ?_); (case mk1 => k_asm); (case mk2 => k_asm); (case mk3 => k_dflt k_mem); (case me => assumption); (case mkh => k_dflt rfl); intro h'w tk'w t'w F'w N'w; (try k_sweep))
    | ((with_reducible show wpAny _ _ (call (Value.builtin "min") [Value.int _ _, Value.int _ _]) _ _ _); (with_reducible refine' min2_r ?me ?mkh ?mk1 ?mk2 ?_); (case mk1 => k_asm); (case mk2 => k_asm); (case me => first | assumption | exact rfl); (case mkh => k_dflt rfl); intro h'w tk'w t'w F'w N'w; (try k_sweep)))
  k_with "mine:ite" => (k_here; first
    | (with_reducible refine ite_neg (by first | assumption | exact Bool.eq_false_iff.mp (by assumption) | (simp only [decide_true, decide_false, Bool.not_true, Bool.not_false, eq_self, Bool.false_eq_true, not_false_eq_true]; done) | ((try simp only [beq_iff_eq, bne_iff_ne, decide_eq_true_eq, ne_eq, Bool.not_eq_true', decide_eq_false_iff_not, Int.not_lt, Int.not_le]); omega)) ?_)
    | (with_reducible refine ite_pos (by first | assumption | (simp only [decide_true, decide_false, Bool.not_true, Bool.not_false, eq_self, Bool.false_eq_true, not_false_eq_true]; done) | ((try simp only [beq_iff_eq, bne_iff_ne, decide_eq_true_eq, ne_eq, Bool.not_eq_true', decide_eq_false_iff_not, Int.not_lt, Int.not_le]); omega)) ?_))
  k_with "mine:compareOp NotIn" => (k_here; (with_reducible show wpAny _ _ (compareOp CmpOp.NotIn (Value.int _ _) (Value.ref _)) _ _ _); (with_reducible refine' notIn_range ?mk1 ?mk2 ?mk3 ?_); (case mk1 => k_dflt assumption); (case mk2 => omega); (case mk3 => omega))
  k_with "mine:compareOp NotIn int ref" => (walk_at "compareOp NotIn")
  k_with "mine:binaryOp FloorDiv int int" => (k_here; (with_reducible refine' fdiv_r ?me ?mk2 ?mk3 ?_); (case me => first | assumption | exact rfl); (case mk2 => first | decide | omega); (case mk3 => first | decide | omega); intro t'w)
  k_with "mine:binaryOp Mod int int" => (k_here; (with_reducible refine' fmod_r ?me ?mk2 ?_); (case me => first | assumption | exact rfl); (case mk2 => first | decide | omega); intro t'w)
  k_with "mine enterC" => (refine' code_defPC ?mk1 ?mk2 ?mk3 ?mk4 ?mk5 ?mkA ?mkF ?mkK ?mk6 ?mk7 ?mk8 ?mk9 ?mkB ?mkD ?_ ?mc2 ?mc3 ?mc4; (case mkA => exact rfl); (case mkF => exact rfl); (case mkK => assumption); (case mk1 => k_asm); (case mk2 => k_asm); (case mk3 => k_asm); (case mk4 => k_asm); (case mk5 => k_asm); (case mk6 => k_is); (case mk7 => k_is); (case mk8 => ktr_room); (case mk9 => exact BindsTo.of_eq rfl); (case mkB => exact rfl); (case mkD => decide +kernel); (case mc2 => exact rfl); (case mc3 => exact rfl); (case mc4 => exact rfl); k_whole; intro g'w L'w h'w tk'w cells'w hH'w FG'w F'w N'w Y'w B'w X'w T'w l1'w; (try k_lt l1'w); k_cells Y'w; (try simp only [List.cons_append, List.nil_append] at N'w); (try dsimp only); (try k_lift B'w); (try k_fold); refine cut ?_; intro qq'w hq'w; refine letA ?_; intro A1'w)
  k_with "mine startC" => (dsimp only [Ctr]; k_fill; intros; refine wpAny_call ?_; k_dflt (k_extra "mine enterC"))
  k_with "mine:CTup" => (k_here; k_dflt (refine CTup.at (by rfl) (by k_asm) (by k_asm) (by k_mem) (by exact Nat.le_of_ble_eq_true rfl) ?_; intro g'w; lcg_lit))
  k_with "mine:CTupT" => (k_here; k_dflt (refine CTupT.at (by rfl) (by k_asm) (by k_asm) (by k_mem) (by exact Nat.le_of_ble_eq_true rfl) ?_; intro g'w; lct_lit))
  k_with "mine:pyIter ref" => (k_here; (with_reducible show wpAny _ _ (pyIter (Value.ref _)) (fun it s₂ => TurnsAt _ _ _ _ _ _ _ _ _ it s₂) _ _); ktu_seq)
  k_with "mine updF" => (first | (refine' UpdF.head ?ma; (case ma => k_extra "mine off")) | (refine' UpdF.tail ?ma ?mb; (case ma => k_ne); (case mb => k_extra "mine updF")))
  k_with "mine:storeName" => (k_here; k_dflt (first
    | (refine' storeX_L ?mF ?mN ?_ ?ma ?mb; (case ma => rfl); (case mb => rfl); (case mF => k_asm); (case mN => k_asm); k_whole; intro h'w F'w N'w; (try k_sweep))
    | (refine' storeX_C ?mF ?mN ?mc ?mU ?md ?_ ?ma ?mb; (case ma => rfl); (case mb => rfl); (case mF => k_asm); (case mN => k_asm); (case mc => rfl); (case mU => k_extra "mine updF"); (case md => k_asm); k_whole; intro h'w o'w F'w N'w d'w; (try dsimp only at N'w); (try k_sweep))))
  k_with "mine:CompSrc" => (k_here; k_dflt (refine LCg.CompSrc.ledger (by rfl) (by k_asm) (by k_asm) (by k_mem) (by exact Nat.le_of_ble_eq_true rfl) ?_; intro g'w; lcg_lit))
  k_with "mine enterC" => (refine' code_defPC2 ?mkb ?mk1 ?mk2 ?mk3 ?mk4 ?mk5 ?mkA ?mkF ?mkK ?mk6 ?mk7 ?mk8 ?mk9 ?mkB ?mkD ?mkE ?mkG ?_ ?mc2 ?mc3 ?mc4; (case mkb => assumption); (case mkA => exact rfl); (case mkF => exact rfl); (case mkK => assumption); (case mk1 => k_asm); (case mk2 => k_asm); (case mk3 => k_asm); (case mk4 => k_asm); (case mk5 => k_asm); (case mk6 => k_is); (case mk7 => k_is); (case mk8 => ktr_room); (case mk9 => exact BindsTo.of_eq rfl); (case mkB => exact rfl); (case mkD => decide +kernel); (case mkE => intro _; rfl); (case mkG => intro _; rfl); (case mc2 => exact rfl); (case mc3 => exact rfl); (case mc4 => exact rfl); k_whole; intro g'w L'w h'w tk'w cells'w hH'w FG'w F'w N'w Y'w B'w X'w T'w l1'w; (try k_lt l1'w); k_cells Y'w; (try simp only [List.cons_append, List.nil_append] at N'w); (try dsimp only); (try k_lift B'w); (try k_fold); refine cut ?_; intro qq'w hq'w; refine letA ?_; intro A1'w)
  trivial
theorem row_len (n : Nat) : (rowS n).length = n + 1 := by simp [rowS, mkS, Str.length]
theorem rep_len (n : Nat) : (repS n).length = 4 * n + 1 := by simp [repS, mkS, Str.length]; omega
section
variable {prog : Program} {w : World} {A : Around} {E : Value → Shared → Prop} {s : Shared} {h₀ : Heap} {L : Addr} {m : Str → Option Value} {env : Env}
theorem CompRestP.succ {elt : Expr} {x : Str} {scope : Scope} {cl : List (Str × Addr)} {P : Nat → Value → Prop} {Fin : List Value → List (Addr × Obj) → Prop} {news : List (Addr × Obj)} {k i : Nat} {ys : List Value}
    (h : ∀ v I oI C oC D m₂ h tk (E' : Value → Shared → Prop), 0 < tk → P i v → LCg.NsObj oC m₂ → m₂ x = some v → Fr h₀ L h m → News h₀ L h ((I, oI) :: (C, oC) :: (D, LCg.lst ys) :: news) →
      LCg.Off3 I C D news → ((@Ne Nat I C) ∧ (@Ne Nat I D) ∧ (@Ne Nat C D)) →
      wpAny (model prog w) A (eval elt (compEnvC scope cl C env)) (CompEndP h₀ L m { s with heap := h, toks := tk } ((I, oI) :: (C, oC) :: (D, LCg.lst ys) :: news) (fun y => CompRestP prog w A h₀ L m env elt x scope cl s P Fin news k (i + 1) (ys ++ [y]))) E' { s with heap := h, toks := tk }) :
    CompRestP prog w A h₀ L m env elt x scope cl s P Fin news (k + 1) i ys := h
theorem CompRestP.zero {elt : Expr} {x : Str} {scope : Scope} {cl : List (Str × Addr)} {P : Nat → Value → Prop} {Fin : List Value → List (Addr × Obj) → Prop} {news : List (Addr × Obj)} {i : Nat} {ys : List Value} (h : Fin ys news) :
    CompRestP prog w A h₀ L m env elt x scope cl s P Fin news 0 i ys := h
theorem CompRestC.succ {elt : Expr} {x : Str} {scope : Scope} {cl : List (Str × Addr)} {P : Nat → Value → Prop} {Fin : List Value → List (Addr × Obj) → Prop} {news : List (Addr × Obj)} {k i : Nat} {ys : List Value}
    (h : ∀ v I oI C oC K oK D h tk (E' : Value → Shared → Prop), P i v → oK.data = .cell (some v) → Fr h₀ L h m → News h₀ L h ((I, oI) :: (C, oC) :: (K, oK) :: (D, LCg.lst ys) :: news) →
      LCg.Off3 I C D news → LCg.Off1 K news → ((@Ne Nat I C) ∧ (@Ne Nat I K) ∧ (@Ne Nat I D) ∧ (@Ne Nat C K) ∧ (@Ne Nat C D) ∧ (@Ne Nat K D)) →
      wpAny (model prog w) A (eval elt (compEnvC scope ((x, K) :: cl) C env)) (CompEndC h₀ L m { s with heap := h, toks := tk } ((I, oI) :: (C, oC) :: (K, oK) :: (D, LCg.lst ys) :: news) (fun r o => CompRestC prog w A h₀ L m env elt x scope cl s P Fin k (i + 1) (ys ++ [.ref r]) ((r, o) :: news))) E' { s with heap := h, toks := tk }) :
    CompRestC prog w A h₀ L m env elt x scope cl s P Fin (k + 1) i ys news := h
theorem CompRestC.zero {elt : Expr} {x : Str} {scope : Scope} {cl : List (Str × Addr)} {P : Nat → Value → Prop} {Fin : List Value → List (Addr × Obj) → Prop} {news : List (Addr × Obj)} {i : Nat} {ys : List Value} (h : Fin ys news) :
    CompRestC prog w A h₀ L m env elt x scope cl s P Fin 0 i ys news := h
/-- the turns alike: each is walked once -/
theorem CompRestP.map3 {elt : Expr} {x : Str} {scope : Scope} {cl : List (Str × Addr)} {P : Nat → Value → Prop} {Fin : List Value → List (Addr × Obj) → Prop} {news : List (Addr × Obj)} (f : Nat → Value)
    (turn : ∀ i v I oI C oC D m₂ h tk ys (E' : Value → Shared → Prop), i < 3 → 0 < tk → P i v → LCg.NsObj oC m₂ → m₂ x = some v → Fr h₀ L h m → News h₀ L h ((I, oI) :: (C, oC) :: (D, LCg.lst ys) :: news) →
      LCg.Off3 I C D news → ((@Ne Nat I C) ∧ (@Ne Nat I D) ∧ (@Ne Nat C D)) →
      wpAny (model prog w) A (eval elt (compEnvC scope cl C env)) (CompEndP h₀ L m { s with heap := h, toks := tk } ((I, oI) :: (C, oC) :: (D, LCg.lst ys) :: news) (fun y => y = f i)) E' { s with heap := h, toks := tk })
    (fin : Fin [f 0, f 1, f 2] news) : CompRestP prog w A h₀ L m env elt x scope cl s P Fin news 3 0 [] := by
  have st : ∀ i ys (K : Value → Prop), i < 3 → K (f i) → ∀ v I oI C oC D m₂ h tk (E' : Value → Shared → Prop), 0 < tk → P i v → LCg.NsObj oC m₂ → m₂ x = some v → Fr h₀ L h m → News h₀ L h ((I, oI) :: (C, oC) :: (D, LCg.lst ys) :: news) →
      LCg.Off3 I C D news → ((@Ne Nat I C) ∧ (@Ne Nat I D) ∧ (@Ne Nat C D)) →
      wpAny (model prog w) A (eval elt (compEnvC scope cl C env)) (CompEndP h₀ L m { s with heap := h, toks := tk } ((I, oI) :: (C, oC) :: (D, LCg.lst ys) :: news) K) E' { s with heap := h, toks := tk } :=
    fun i ys K hi hK v I oI C oC D m₂ h tk E' a1 a2 a3 a4 a5 a6 a7 a8 => wpAny_mono (turn i v I oI C oC D m₂ h tk ys E' hi a1 a2 a3 a4 a5 a6 a7 a8) (fun y s₄ ⟨h', tk', e, F, N, q⟩ => ⟨h', tk', e, F, N, by subst q; exact hK⟩) fun _ _ e => e
  exact CompRestP.succ (st 0 [] _ (by decide) (CompRestP.succ (st 1 _ _ (by decide) (CompRestP.succ (st 2 _ _ (by decide) fin)))))
theorem CompEndP.val {old : List (Addr × Obj)} {s₁ : Shared} {h' : Heap} {tk : Nat} {y z : Value} (F : Fr h₀ L h' m) (N : News h₀ L h' old) (e : y = z) : CompEndP h₀ L m s₁ old (fun y => y = z) y { s₁ with heap := h', toks := tk } := CompEndP.intro F N e
theorem cat_r {Q : Value → Shared → Prop} {x y r : Str} {t u : Tok} (e : x ++ y = r) (hz : x.length + y.length ≤ sizeLine) (h : ∀ t' k, s.toks ≤ k → Q (.str r t') { s with toks := k }) : wpAny (model prog w) A (binaryOp .Add (.str x t) (.str y u)) Q E s := by
  have h1 : wpAny (model prog w) A (binaryOp .Add (.str x t) (.str y u)) (fun v s' => ∃ t' k, v = .str (x ++ y) t' ∧ s.toks ≤ k ∧ s' = { s with toks := k }) E s := by
    refine P.add_str ?_
    by_cases hx : (x.length == 0) = true
    · rw [if_pos hx]
      exact ⟨u, s.toks, by rw [Str.append_left_empty hx], Nat.le_refl _, rfl⟩
    · rw [if_neg hx]
      by_cases hy : (y.length == 0) = true
      · rw [if_pos hy]
        exact ⟨t, s.toks, by rw [Str.append_right_empty hy], Nat.le_refl _, rfl⟩
      · rw [if_neg hy]
        exact ⟨by rw [Str.length_append]; exact hz, s.toks, s.toks + 1, rfl, Nat.le_succ _, rfl⟩
  refine wpAny_mono h1 (fun v s' hq => ?_) fun _ _ e => e
  obtain ⟨t', k, rfl, hk, rfl⟩ := hq
  rw [e]; exact h t' k hk
open Builtin Builtin.Str in
theorem repl_r {Q : Value → Shared → Prop} {x y z r : Str} {t u v : Tok} (e : Txt.replace x y z = r) (hu : u ≠ 0) (hv : v ≠ 0) (huv : u ≠ v) (hyz : (y == z) = false) (hx : x.length ≤ 1048576) (hz : z.length ≤ 14)
    (h : ∀ t' k, s.toks ≤ k → Q (.str r t') { s with toks := k }) : wpAny (model prog w) A (call (.builtin "str.replace") [.str x t, .str y u, .str z v]) Q E s := by
  have hb : x.length + (x.length + 1) * z.length ≤ 16777216 := by
    have h1 : (x.length + 1) * z.length ≤ (x.length + 1) * 14 := Nat.mul_le_mul_left _ hz
    omega
  have hl : tooLong (x.length + (occurrences x y 0 x.length (x.length + 1)).length * z.length) = false := by
    have h1 := StrLaws.occ_length_le x y 0 x.length (x.length + 1)
    have h2 : (occurrences x y 0 x.length (x.length + 1)).length * z.length ≤ (x.length + 1) * z.length := Nat.mul_le_mul_right _ h1
    have := sizeLine_eq
    unfold tooLong
    exact decide_eq_false (by omega)
  refine call_gives F.slot_str_replace (typeIs_str _ _ _) F.entry_str_replace (F.args_str_replace_3 _ _ _) (gives_str_replace x y z t u v fun _ => ⟨by simp [hu, hv], by simp [huv], hyz, hl⟩) ?_
  subst e
  have h' := h
  unfold Txt.replace at h'
  by_cases hc : ((occurrences x y 0 x.length (x.length + 1)).isEmpty || (y.length == 0 && z.length == 0)) = true
  · rw [if_pos hc] at h' ⊢
    exact h' t s.toks (Nat.le_refl _)
  · rw [if_neg hc] at h' ⊢
    exact ⟨fits_replaced y hb, h' _ _ (Nat.le_succ _)⟩
end
theorem ksetP41_24 : True := by
  k_with "mine:eval ListComp" => (k_here; first
    | ((with_reducible show wpAny _ _ (eval (Expr.ListComp (Expr.ListComp _ _ _ _) _ _ _) _) _ _ _); k_dflt (refine comp_C (F₀ := by k_asm) (by with_unfolding_all rfl) (by intro _; rfl) (by intro _; rfl) (by rfl) (by decide) (by rfl) ?_))
    | ((with_reducible show wpAny _ _ (eval (Expr.ListComp (Expr.Call _ _ _ _) _ _ _) _) _ _ _); k_dflt (refine comp_P (F₀ := by k_asm) (by with_unfolding_all rfl) (by decide) (by rfl) (by decide) (by rfl) ?_)))
  k_with "mine:eval Call" => (k_here; k_dflt (refine Call_ ?_))
  k_with "mine:CSrcC" => (k_here; k_dflt (refine CSrcC.at (by rfl) (by k_asm) (by k_asm) (by k_mem) (by exact Nat.le_of_ble_eq_true rfl) ?_; intro g'w; (show CompRestC _ _ _ _ _ _ _ _ _ _ _ _ _ _ 3 0 [] _)))
  k_with "mine:CSrcP" => (k_here; k_dflt (refine CSrcP.at (by rfl) (by k_asm) (by k_asm) (by k_mem) (by exact Nat.le_of_ble_eq_true rfl) ?_; intro g'w; (show CompRestP _ _ _ _ _ _ _ _ _ _ _ _ _ _ _ 3 0 [])))
  k_with "mine:CompRestC" => (first
    | (refine CompRestC.succ ?_; intro v'w I'w oI'w C'w oC'w K'w oK'w D'w h'w tk'w E'w hv'w hK'w F'w N'w off'w off1'w ne'w; (lcg_open hv'w); (try dsimp only); refine cut ?_; intro q4'w hq4'w)
    | (refine CompRestC.zero ?_; (try dsimp only); (try simp only [List.nil_append, List.cons_append]); (try unfold LCg.FinE); intro D'w h'w tk'w F'w N'w o1'w; k_extra "mine offs"; (try dsimp only)))
  k_with "mine:call builtin:str.replace" => (k_here; (with_reducible refine' repl_r ?me ?mu ?mv ?mw ?my ?mx ?mz ?_); (case me => assumption); (case mu => k_extra "mine tok2"); (case mv => k_extra "mine tok2"); (case mw => k_extra "mine tok2"); (case my => decide +kernel); (case mx => (rw [row_len]; omega)); (case mz => decide +kernel); intro t'w tk'w ltk'w)
  k_with "mine tok2" => (first | exact Nat.succ_ne_zero _ | exact Nat.ne_of_gt (by with_reducible assumption) | (refine neN ?_; (try dsimp only at *); omega))
  trivial

noncomputable def Rows3 (a b c : Nat) : Prop := a ≤ 12 ∧ b ≤ 12 ∧ c ≤ 12
section
variable {prog : Program} {w : World} {A : Around} {E : Value → Shared → Prop} {s : Shared} {h₀ : Heap} {L : Addr} {m : Str → Option Value} {env : Env}
theorem CompRestP.rows {elt : Expr} {x : Str} {scope : Scope} {cl : List (Str × Addr)} {Fin : List Value → List (Addr × Obj) → Prop} {news : List (Addr × Obj)} {a b c : Nat} {t1 t2 t3 : Tok} (H : Rows3 a b c) {q : Nat} {oK : Obj} {tq : Tok} (_hK : oK.data = .cell (some (.str (rowS q) tq)))
    (turn : ∀ n t I oI C oC D m₂ h tk ys (E' : Value → Shared → Prop), n ≤ 12 → Txt.replace (rowS n) (Str.ofString ".") (Str.ofString "b...") = repS n → Str.ofString "..." ++ repS n = wantS n → 0 < tk → LCg.NsObj oC m₂ → m₂ x = some (.str (rowS n) t) → Fr h₀ L h m → News h₀ L h ((I, oI) :: (C, oC) :: (D, LCg.lst ys) :: news) →
      LCg.Off3 I C D news → ((@Ne Nat I C) ∧ (@Ne Nat I D) ∧ (@Ne Nat C D)) →
      wpAny (model prog w) A (eval elt (compEnvC scope cl C env)) (CompEndP h₀ L m { s with heap := h, toks := tk } ((I, oI) :: (C, oC) :: (D, LCg.lst ys) :: news) (fun y => y = .bool (decide (n ≤ q)))) E' { s with heap := h, toks := tk })
    (fin : Fin [.bool (decide (a ≤ q)), .bool (decide (b ≤ q)), .bool (decide (c ≤ q))] news) :
    CompRestP prog w A h₀ L m env elt x scope cl s (fun i v => #[Value.str (rowS a) t1, Value.str (rowS b) t2, Value.str (rowS c) t3][i]? = some v) Fin news 3 0 [] := by
  obtain ⟨ha, hb, hc⟩ := H
  have go : ∀ n t, n ≤ 12 → ∀ v I oI C oC D m₂ h tk ys (E' : Value → Shared → Prop), v = .str (rowS n) t → 0 < tk → LCg.NsObj oC m₂ → m₂ x = some v → Fr h₀ L h m → News h₀ L h ((I, oI) :: (C, oC) :: (D, LCg.lst ys) :: news) →
      LCg.Off3 I C D news → ((@Ne Nat I C) ∧ (@Ne Nat I D) ∧ (@Ne Nat C D)) →
      wpAny (model prog w) A (eval elt (compEnvC scope cl C env)) (CompEndP h₀ L m { s with heap := h, toks := tk } ((I, oI) :: (C, oC) :: (D, LCg.lst ys) :: news) (fun y => y = .bool (decide (n ≤ q)))) E' { s with heap := h, toks := tk } := by
    intro n t hn v I oI C oC D m₂ h tk ys E' e htk hC hx F N off ne
    subst e
    obtain ⟨-, -, r1, -, r2, -, -, -, -⟩ := ell_at hn
    exact turn n t I oI C oC D m₂ h tk ys E' hn r1 r2 htk hC hx F N off ne
  refine CompRestP.map3 (fun i => if i = 0 then .bool (decide (a ≤ q)) else if i = 1 then .bool (decide (b ≤ q)) else .bool (decide (c ≤ q))) (fun i v I oI C oC D m₂ h tk ys E' hi htk hv => ?_) fin
  match i, hi with
  | 0, _ => exact go a t1 ha v I oI C oC D m₂ h tk ys E' (Option.some.inj hv).symm htk
  | 1, _ => exact go b t2 hb v I oI C oC D m₂ h tk ys E' (Option.some.inj hv).symm htk
  | 2, _ => exact go c t3 hc v I oI C oC D m₂ h tk ys E' (Option.some.inj hv).symm htk
end
theorem ksetP41_25 : True := by
  k_with "mine:binaryOp Add str str" => (k_here; (with_reducible refine' cat_r ?me ?mz ?_); (case me => assumption); (case mz => (have := sizeLine_eq; rw [rep_len]; (show 3 + _ ≤ _); omega)); intro t'w tk'w)
  k_with "mine:call ref" => (k_here; (with_reducible show wpAny _ _ (call (Value.ref 83) _) _ _ _); k_dflt (refine' use_bool (ell_c _ _ _ _ _ _ ?mpa ?mpb _ _) ?mk1 ?mk2 ?mk3 ?mk4 ?mk5 ?mk6 ?mk7 ?mk8 ?mk9 ?_; k_extra "mine use"; (case mpa => assumption); (case mpb => assumption)); intro h'w tk'w F'w N'w)
  k_with "mine:CompRestP" => (
    (rename Rows3 _ _ _ => hr'w)
    refine' CompRestP.rows hr'w ?mhK ?_ ?_
    (case mhK => with_reducible assumption)
    intro n'w t'w I'w oI'w C'w oC'w D'w m'w h'w tk'w ys'w E'w hn'w r1'w r2'w htk'w hC'w hx'w F'w N'w off'w ne'w
    (try dsimp only)
    refine cut ?_
    intro q5'w hq5'w)
  k_with "mine:CompEndP" => (refine CompEndP.val (by k_asm) (by k_asm) rfl)
  k_with "mine off1" => (first | exact trivial | (refine And.intro ?_ ?_; (first | assumption | (refine Ne.symm ?_; assumption)); k_extra "mine off1"))
  k_with "mine:CompEndC" => ((try simp only [List.nil_append, List.cons_append]); refine' CompEndC.intro ?mF ?mN ?moff ?_; (case mF => k_asm); (case mN => with_reducible assumption); (case moff => k_extra "mine off1"))
  trivial

/-- what _law_takes hands back -/
noncomputable def PTakes (a b c : Nat) (h h' : Heap) (v : Value) : Prop := ∃ D r0 r1 r2, v = .ref D ∧ h.get? D = none ∧ h.get? r0 = none ∧ h.get? r1 = none ∧ h.get? r2 = none ∧ (@Ne Nat r0 D ∧ @Ne Nat r1 D ∧ @Ne Nat r2 D ∧ @Ne Nat r0 r1 ∧ @Ne Nat r0 r2 ∧ @Ne Nat r1 r2) ∧
  h'.get? D = some (LCg.lst [.ref r0, .ref r1, .ref r2]) ∧ h'.get? r0 = some (LCg.lst [.bool (decide (a ≤ a)), .bool (decide (b ≤ a)), .bool (decide (c ≤ a))]) ∧
  h'.get? r1 = some (LCg.lst [.bool (decide (a ≤ b)), .bool (decide (b ≤ b)), .bool (decide (c ≤ b))]) ∧ h'.get? r2 = some (LCg.lst [.bool (decide (a ≤ c)), .bool (decide (b ≤ c)), .bool (decide (c ≤ c))])
theorem takes_c (w mean mg mb) (l : Addr) (k : Nat) (a b c : Nat) (ha : a ≤ 12) (hb : b ≤ 12) (hc : c ≤ 12) (t1 t2 t3 : Tok) :
    Ctr w mean mg mb 105 [.ref l] [(l, listOf #[.str (rowS a) t1, .str (rowS b) t2, .str (rowS c) t3] k)] 2 (PTakes a b c) := by
  have hM : Mp (fun _ => none) (fun y => if y = Str.ofString "rows" then some (.ref l) else none) := trivial
  obtain ⟨-, -, -, g1, -, -, -, -, -⟩ := ell_at ha
  obtain ⟨-, -, -, g2, -, -, -, -, -⟩ := ell_at hb
  obtain ⟨-, -, -, g3, -, -, -, -, -⟩ := ell_at hc
  have hr : Rows3 a b c := ⟨ha, hb, hc⟩
  k_extra "mine startC"
  k_steps
  k_extra "mine ret"
  refine ⟨_, _, _, _, rfl, ?_, ?_, ?_, ?_, ⟨?_, ?_, ?_, ?_, ?_, ?_⟩, News.get (by with_reducible assumption) (List.Mem.head _), News.get (by with_reducible assumption) (List.Mem.tail _ (List.Mem.tail _ (List.Mem.tail _ (List.Mem.head _)))), News.get (by with_reducible assumption) (List.Mem.tail _ (List.Mem.tail _ (List.Mem.head _))), News.get (by with_reducible assumption) (List.Mem.tail _ (List.Mem.head _))⟩
  all_goals first | assumption | (refine Ne.symm ?_; assumption) | k_extra "mine fresh"
end
section
section
variable {prog : Program} {w : World} {A : Around} {E : Value → Shared → Prop} {s : Shared} {env : Env} {h₀ : Heap} {body : List Stmt} {Q : Flow → Shared → Prop}
noncomputable def rangeItems (a : Int) (n : Nat) : List Itm := (List.range n).map fun (i : Nat) => Itm.tok fun t => .int (a + (i : Int)) t
theorem iter_rangeTurns {x : Str} {px : Pos} {r : Addr} {a₀ b₀ : Int} {t₀ u₀ v₀ : Tok} {n : Nat} {m₀ : Str → Option Value} {news : List (Addr × Obj)}
    (hh : A.handled = none) (hr : IsRange s.heap r a₀ b₀ 1 t₀ u₀ v₀) (hsmall : Builtin.Range.small a₀ b₀ 1 = true) (hn : Builtin.Range.rangeSize a₀ b₀ 1 = (n : Int)) (F : Fr h₀ env.locals s.heap m₀) (N : News h₀ env.locals s.heap news)
    (rest₀ : ∀ I : Addr, (∀ p ∈ news, p.1 < I) → ItemsRest prog w A E h₀ env (.Name x px) body Q s [(I, "range_iterator")] [] (rangeItems a₀ n) m₀ news) :
    wpAny (model prog w) A (pyIter (.ref r)) (fun it s₂ => TurnsAt prog w A h₀ env (.Name x px) body Q E it s₂) E s := by
  refine wpAny_pyIter_range hr hsmall ?_
  have rest := rest₀ s.heap.objs.size fun p hp => Heap.lt_size (N p hp).1
  have W : Walks prog w A s.heap.objs.size [s.heap.objs.size] [s.heap.objs.size] n (fun i v => i < n ∧ ∃ t, v = .int (a₀ + i * 1) t)
      (fun i h => IsRangeIter h s.heap.objs.size (a₀ + (i : Nat) * 1) ((n : Int) - (i : Nat)) 1) := (Walks.range hh _ a₀ 1 n).bound
  refine ktu_core (tk0 := s.toks) (keep := []) (KTurns.ofWalks W fun i v s Q E st q => wpAny_pure q) (by simp [rangeItems]) (fun i v h hp => ?_) (fun i h st => ?_) (fun b hb => ?_) (fun b hb => by simpa using hb) (fun b hb => .inl (by simpa using hb)) ?_ (fun p hp hI => ?_) (by show IsRangeIter _ _ _ _ _; rw [hn]; simpa using Heap.get?_push_size _ rfl) (F.push _) (fun p hp => ⟨Heap.get?_push_of_some _ (N p hp).1, (N p hp).2⟩) trivial rest
  · obtain ⟨hi, t, rfl⟩ := hp
    refine ⟨Itm.tok fun t => .int (a₀ + (i : Int)) t, ?_, t, by rw [Int.mul_one]⟩
    unfold rangeItems
    rw [List.getElem?_map, List.getElem?_range hi]; rfl
  · exact ⟨[(s.heap.objs.size, _)], ⟨⟨rfl, rfl⟩, trivial⟩, fun p hp => by rw [List.mem_singleton.mp hp]; exact st⟩
  · have hb' : b = s.heap.objs.size := by simpa using hb
    rw [hb']
    exact ⟨List.mem_cons_self .., next_is_new F⟩
  · intro hI
    exact absurd F.ns.lt ((List.mem_singleton.mp hI) ▸ Nat.lt_irrefl _)
  · exact absurd (Heap.lt_size (N p hp).1) ((List.mem_singleton.mp hI) ▸ Nat.lt_irrefl _)
/-- after a turn: the list D holds values with R; the names xs are forgotten -/
noncomputable def TurnL (xs : List Str) (D : Addr) (base : List (Addr × Obj)) (R : List Value → Prop) (m₀ m' : Str → Option Value) (n' : List (Addr × Obj)) : Prop :=
  ∃ u vs cap, R vs ∧ m' = dirt xs u m₀ ∧ n' = (D, wsN vs cap) :: base
theorem ItemsRest.invL {x : Str} {px : Pos} {ws : List (Addr × String)} {news : List (Addr × Obj)} {a₀ : Int} {n : Nat} {m₀ : Str → Option Value} {D : Addr} {vs₀ : List Value} {cap₀ : Nat} (y : Str) (xs : List Str) (base : List (Addr × Obj)) (R : Nat → List Value → Prop)
    (_hD : m₀ y = some (.ref D)) (hD : (D, wsN vs₀ cap₀) ∈ news) (h0 : R 0 vs₀) (hb : SubL base news)
    (turn : ∀ i t u vs cap h tk, i < n → R i vs → Fr h₀ env.locals h (dirt xs u m₀) → AllObj ws (fun its => News h₀ env.locals h (its ++ (D, wsN vs cap) :: base) →
      wpAny (model prog w) A (assign (.Name x px) env (.int (a₀ + (i : Int)) t)) (fun _ s₂ => wpAny (model prog w) A (execs body env) (UnrPostW h₀ env.locals { s with heap := h, toks := tk } its (fun m' n' => SubL [] n' ∧ ∃ n₁, SubL n₁ n' ∧ TurnL xs D base (R (i + 1)) m₀ m' n₁) Q) E s₂) E { s with heap := h, toks := tk }))
    (done : ∀ u vs cap h tk, R n vs → Fr h₀ env.locals h (dirt xs u m₀) → News h₀ env.locals h ((D, wsN vs cap) :: base) → Q .next { s with heap := h, toks := tk }) :
    ItemsRest prog w A E h₀ env (.Name x px) body Q s ws [] (rangeItems a₀ n) m₀ news := by
  obtain ⟨u₀, hu₀⟩ := dirt_of (xs := xs) (m := m₀) (m' := m₀) fun _ _ => rfl
  refine ItemsRest.inv (fun i m' n' => TurnL xs D base (R i) m₀ m' n') (xs := rangeItems a₀ n) ?_ ?_ _ 0 m₀ ((D, wsN vs₀ cap₀) :: base) news rfl (Nat.zero_le _) ⟨u₀, vs₀, cap₀, h0, hu₀, rfl⟩ ⟨hD, hb⟩
  · rintro i a m nn v h tk hx ⟨u, vs, cap, hR, rfl, rfl⟩ hav F
    unfold rangeItems at hx
    rw [List.getElem?_map] at hx
    cases q : (List.range n)[i]? with
    | none => rw [q] at hx; cases hx
    | some z =>
      rw [q] at hx
      obtain ⟨hz, e⟩ := List.getElem?_eq_some_iff.mp q
      rw [List.getElem_range] at e
      subst e
      have e := Option.some.inj hx
      subst e
      obtain ⟨t, rfl⟩ := hav
      exact turn i t u vs cap h tk (by simpa using hz) hR F
  · rintro m nn h tk ⟨u, vs, cap, hR, rfl, rfl⟩ F N
    have e : (rangeItems a₀ n).length = n := by simp [rangeItems]
    rw [e] at hR
    exact done u vs cap h tk hR F N
theorem UnrEndW.introL {L : Addr} {its base all : List (Addr × Obj)} {s₁ : Shared} {h' : Heap} {tk : Nat} {m₀ m' : Str → Option Value} {xs : List Str} {D : Addr} {vs : List Value} {cap : Nat} {R : List Value → Prop} (F : Fr h₀ L h' m') (N : News h₀ L h' all)
    (hD : (D, wsN vs cap) ∈ all) (hR : R vs) (hI : SubL its all) (hb : SubL base all) (off : OffW its ((D, wsN vs cap) :: base)) (hm : ∀ y, y ∉ xs → m' y = m₀ y) :
    UnrEndW h₀ L s₁ its (fun m' n' => SubL [] n' ∧ ∃ n₁, SubL n₁ n' ∧ TurnL xs D base R m₀ m' n₁) { s₁ with heap := h', toks := tk } := by
  obtain ⟨u, e⟩ := dirt_of hm
  exact UnrEndW.intro F N ((D, wsN vs cap) :: base) hI ⟨hD, hb⟩ off ⟨trivial, _, SubL.of fun p hp => hp, u, vs, cap, hR, e, rfl⟩
/-- one of three -/
noncomputable def pick3 {α : Type} (a b c : α) (i : Int) : α := if i = 0 then a else if i = 1 then b else c
end
section
variable {prog : Program} {w : World} {A : Around} {E : Value → Shared → Prop} {s : Shared} {Q : Value → Shared → Prop} {h₀ : Heap} {L : Addr} {m : Str → Option Value} {news : List (Addr × Obj)} {u : Tok} {value slice : PySem.Expr}
theorem item3 {l : Addr} {x : Int} {a b c : Value} {o : Obj} (N : News h₀ L s.heap news) (hm : (l, o) ∈ news) (hc : o.cls = .type "list") (hd : ∃ n, o.data = .seq #[a, b, c] n) (h0 : 0 ≤ x) (h3 : x < 3) (h : Q (pick3 a b c x) s)
    (hs : subscripted slice false (.ref l) (.int x u) = operate [.ref l, .int x u] (getItem (.ref l) (.int x u)) := by with_unfolding_all rfl) :
    wpAny (model prog w) A (subscriptTail value slice (.ref l) (.int x u)) Q E s := by
  obtain ⟨n, hd⟩ := hd
  have hl : s.heap.IsList l [a, b, c].toArray := ⟨o, (N _ hm).1, hc, n, hd⟩
  refine item_litK hl h0 (by omega) ?_ h hs
  have : x = 0 ∨ x = 1 ∨ x = 2 := by omega
  rcases this with rfl | rfl | rfl <;> rfl
theorem pick3_ref (a b c : Addr) (x : Int) : pick3 (Value.ref a) (.ref b) (.ref c) x = .ref (pick3 a b c x) := by unfold pick3; split <;> (try split) <;> rfl
theorem pick3_bool (a b c : Bool) (x : Int) : pick3 (Value.bool a) (.bool b) (.bool c) x = .bool (pick3 a b c x) := by unfold pick3; split <;> (try split) <;> rfl
/-- takes[x] -/
theorem item_ref {l : Addr} {x : Int} {a b c : Addr} {o : Obj} (N : News h₀ L s.heap news) (hm : (l, o) ∈ news) (hc : o.cls = .type "list") (hd : ∃ n, o.data = .seq #[.ref a, .ref b, .ref c] n) (h0 : 0 ≤ x) (h3 : x < 3) (h : Q (.ref (pick3 a b c x)) s)
    (hs : subscripted slice false (.ref l) (.int x u) = operate [.ref l, .int x u] (getItem (.ref l) (.int x u)) := by with_unfolding_all rfl) :
    wpAny (model prog w) A (subscriptTail value slice (.ref l) (.int x u)) Q E s := item3 N hm hc hd h0 h3 (by rw [pick3_ref]; exact h) hs
/-- does the row x take the row y -/
noncomputable def tk3 (a b c : Nat) (x y : Int) : Bool := decide (pick3 a b c y ≤ pick3 a b c x)
noncomputable abbrev bl3 (a b c d : Nat) : Obj := LCg.lst [.bool (decide (a ≤ d)), .bool (decide (b ≤ d)), .bool (decide (c ≤ d))]
/-- takes[x][y] -/
theorem item_take {r0 r1 r2 : Addr} {x y : Int} {a b c : Nat} (N : News h₀ L s.heap news) (m0 : (r0, bl3 a b c a) ∈ news) (m1 : (r1, bl3 a b c b) ∈ news) (m2 : (r2, bl3 a b c c) ∈ news) (x0 : 0 ≤ x) (x3 : x < 3) (y0 : 0 ≤ y) (y3 : y < 3) (h : Q (.bool (tk3 a b c x y)) s)
    (hs : ∀ l, subscripted slice false (.ref l) (.int y u) = operate [.ref l, .int y u] (getItem (.ref l) (.int y u)) := by intro _; with_unfolding_all rfl) :
    wpAny (model prog w) A (subscriptTail value slice (.ref (pick3 r0 r1 r2 x)) (.int y u)) Q E s := by
  have go : ∀ r d, (r, bl3 a b c d) ∈ news → d = pick3 a b c x → wpAny (model prog w) A (subscriptTail value slice (.ref r) (.int y u)) Q E s := fun r d hm e =>
    item3 N hm rfl ⟨_, rfl⟩ y0 y3 (by
      rw [pick3_bool]
      have e2 : pick3 (decide (a ≤ d)) (decide (b ≤ d)) (decide (c ≤ d)) y = tk3 a b c x y := by
        unfold tk3
        rw [← e]
        unfold pick3
        split <;> (try split) <;> rfl
      rw [e2]; exact h) (hs r)
  have hx : x = 0 ∨ x = 1 ∨ x = 2 := by omega
  rcases hx with rfl | rfl | rfl
  · exact go r0 a m0 rfl
  · exact go r1 b m1 rfl
  · exact go r2 c m2 rfl
end
end
section
theorem ksetP43_29 : True := by
  k_with_none
  k_with "mine enter" => (refine' code_defP ?mkb ?mk1 ?mk2 ?mk3 ?mk4 ?mk5 ?mkA ?mkF ?mkK ?mk6 ?mk7 ?mk8 ?mk9 ?mkB ?_ ?mc2 ?mc3 ?mc4 ?mc5; (case mkb => assumption); (case mkA => exact rfl); (case mkF => exact rfl); (case mkK => assumption); (case mk1 => k_asm); (case mk2 => k_asm); (case mk3 => k_asm); (case mk4 => k_asm); (case mk5 => k_asm); (case mk6 => k_is); (case mk7 => k_is); (case mk8 => ktr_room); (case mk9 => exact BindsTo.of_eq rfl); (case mc5 => decide); (case mkB => exact locs rfl); (case mc2 => exact rfl); (case mc3 => exact rfl); (case mc4 => exact rfl); k_whole; intro g'w L'w h'w hH'w FG'w F'w N'w B'w X'w T'w; (try simp only [List.reverse_cons, List.reverse_nil, List.nil_append, List.cons_append, List.length_cons, List.length_nil]); (try dsimp only); (try k_lift B'w); (try k_fold); refine cut ?_; intro qq'w hq'w; refine letA ?_; intro A1'w)
  k_with "mine start" => (w_top off; dsimp only [Ctr]; k_fill; intros; refine wpAny_call ?_; k_dflt (k_extra "mine enter"))
  k_with "mine keeps" => (refine' keeps_of ?mq1 ?mq2 ?mq3 ?mq4 ?mq5; (case mq1 => with_reducible assumption); (case mq2 => with_reducible assumption); (case mq3 => with_reducible assumption); (case mq4 => with_reducible assumption); (case mq5 => lcg_sub))
  k_with "mine off" => (first | exact List.forall_mem_nil _ | (refine List.forall_mem_cons.mpr ⟨?ma, ?mb⟩; (case ma => k_ne); (case mb => k_extra "mine off")))
  k_with "mine fresh" => (refine' fresh_of ?mq1 ?mq2 ?mq3 ?mq4; (case mq1 => with_reducible assumption); (case mq2 => with_reducible assumption); (case mq3 => k_mem); (case mq4 => k_extra "mine off"))
  k_with "mine ret" => ((rename RetOf _ _ _ => hR'w); refine' RetOf.at hR'w ?mkk ?_; (case mkk => k_extra "mine keeps"))
  k_with "mine tup3" => (k_extra "mine ret"; refine' ⟨_, _, _, _, rfl, ?mkf, ?mkg, ?_⟩; (case mkg => exact News.get (by with_reducible assumption) (by k_mem)); (case mkf => k_extra "mine fresh"))
  k_with "mine:execs cons" => (k_here; first | (refine' execs_cutL ?mhs ?mF ?mN ?_; (case mhs => first | (dsimp only; exact rfl) | dsimp only | exact rfl); (case mF => k_asm); (case mN => k_asm); intro m1'w n1'w F1'w N1'w q'w hq'w; try dsimp only at F1'w N1'w) | (refine' execs_cut ?_; intro q'w hq'w))
  k_with "mine:execs cons" => (k_here; (with_reducible show wpAny _ _ _ _ _ (Shared.mk _ _ _ (_ + _) _)); refine' gen_toks ?mhX ?_; (case mhX => omega); intro tk'w htk'w)
  k_with "mine:execs nil" => (k_here; (with_reducible show wpAny _ _ _ _ _ (Shared.mk _ _ _ (_ + _) _)); refine' gen_toks ?mhX ?_; (case mhX => omega); intro tk'w htk'w)
  k_with "mine units" => ((have hcL9 := cLine_is); (try simp +zetaDelta only [units_in1, units_deeper, Around.mark_units, units_caller]); (try dsimp +zetaDelta only [ktrTop]); omega)
  k_with "mine step" => (first | (k_unfold; (try dsimp only)) | (k_end; wrow_close) | walk1 | (dsimp only; walk1) | (leave1; walk_say "STEP leave1"; try dsimp only))
  k_with "mine ne" => (first | with_reducible assumption | (refine Ne.symm ?_; with_reducible assumption) | (refine Nat.ne_of_lt ?_; with_reducible assumption) | (refine Nat.ne_of_gt ?_; with_reducible assumption) | (refine neN ?_; (try dsimp only); (try simp only [ne_eq]); omega))
  k_with "mine:Held" => (refine Held.go (by with_reducible assumption) ?_; try dsimp only)
  k_with "mine offs" => (k_dflt ((rename LCg.Off1 _ _ => hq'w); refine Off1c.of hq'w ?_; clear hq'w; (repeat intro o2'w); refine ⟨?_⟩))
  k_with "mine:FinE" => ((unfold LCg.FinE); intro D'w h'w tk'w F'w N'w o1'w; (try simp only [List.nil_append, List.cons_append] at N'w o1'w); k_extra "mine offs"; (try dsimp only))
  k_with "mine:CompRest" => (with_unfolding_all first
    | (refine LCg.CompRest.succ ?_; intro v'w I'w oI'w C'w oC'w D'w m'w h'w tk'w E'w hv'w hC'w hx'w F'w N'w off'w ne'w; (first | lcg_open hv'w | (obtain ⟨t9'w, hv9'w⟩ := hv'w; subst hv9'w)); refine cut ?_; intro q4'w hq4'w)
    | refine LCg.CompRest.zero ?_)
  k_with "mine:CompRestT" => (with_unfolding_all first
    | (refine LCt.CompRestT.succ ?_; intro v'w I'w oI'w C'w oC'w D'w m'w h'w tk'w E'w hv'w hC'w hx'w F'w N'w off'w ne'w; (first | lcg_open hv'w | (obtain ⟨t9'w, hv9'w⟩ := hv'w; subst hv9'w)))
    | refine LCt.CompRestT.zero ?_)
  k_with "mine:CompEnd" => (refine LCg.CompEnd.intro (by k_asm) (by k_asm) _ (fun _ hp => hp) (by with_reducible assumption) (by lcg_src) ?_)
  k_with "mine arith" => (first | exact Nat.succ_pos _ | with_reducible assumption | (with_reducible exact ar_r0 (by assumption)) | (with_reducible exact ar_r2 (by assumption) (by decide)) | (with_reducible exact ar_r1 (by assumption) (by decide)) | (with_reducible exact ar_absC (by assumption) (by decide)) | (with_reducible exact ar_abs (by assumption) (by assumption) (by decide)) | (with_reducible exact ar_absN (by assumption) (by decide)) | (with_reducible exact ar_absM) | (with_reducible exact ar_absL (by assumption) (by decide)) | (with_reducible exact ar_cle (by assumption) (by decide)) | (with_reducible exact Int.natCast_nonneg _) | (with_reducible exact ar_min0) | (with_reducible exact ar_min1 (by decide)) | (with_reducible exact ar_sc (by assumption) (by decide)) | (with_reducible exact Nat.le_trans (by assumption) (by decide)) | decide)
  k_with "mine mem" => (first | exact memk 0 rfl | exact memk 1 rfl | exact memk 2 rfl | exact memk 3 rfl | exact memk 4 rfl | exact memk 5 rfl | exact memk 6 rfl | exact memk 7 rfl | exact memk 8 rfl | exact memk 9 rfl | exact memk 10 rfl | exact memk 11 rfl | exact memk 12 rfl | exact memk 13 rfl | exact memk 14 rfl | exact memk 15 rfl | exact memk 16 rfl | exact memk 17 rfl | exact memk 18 rfl | exact memk 19 rfl)
  k_with "mine same" => ((repeat (rename (¬ _) ∧ _ => hz'w; have hz1'w := And.left hz'w; have hz2'w := And.right hz'w; clear hz'w)); (repeat (first | with_reducible rfl | (refine (if_neg (by assumption)).trans ?_))))
  k_with "mine use" => ((case mk1 => k_asm); (case mk2 => k_asm); (case mk3 => k_asm); (case mk4 => k_asm); (case mk5 => k_asm); (case mk6 => exact rfl); (case mk7 => lcg_sub); (case mk8 => ktr_room); (case mk9 => units_room))
  k_with "mine:subscriptTail Name Constant ref int" => (k_here; (with_reducible show wpAny _ _ (subscriptTail _ _ (Value.ref _) (Value.int _ _)) _ _ _); kim_at)
  k_with "mine:subscriptTail Name Constant ref int" => (k_here; (with_reducible show wpAny _ _ (subscriptTail _ _ (Value.ref _) (Value.int _ _)) _ _ _); (with_unfolding_all refine' item_litK ?mk1 ?mk2 ?mk3 ?mk4 ?_ ?mk6; (case mk1 => is_list); (case mk2 => decide); (case mk3 => decide); (case mk4 => rfl); (case mk6 => with_unfolding_all rfl); k_whole))
  k_with "mine:binaryOp Div int int" => (k_here; (with_reducible refine' divI_r ?me ?mk1 ?mk2 ?mk3 ?_); (case me => first | assumption | exact rfl); (case mk1 => k_dflt rfl); (case mk2 => first | decide | omega); (case mk3 => omega); intro t'w)
  k_with "mine:binaryOp Mult float int" => (k_here; (with_reducible refine' mulFI_r ?me ?mk3 ?_); (case me => first | assumption | exact rfl); (case mk3 => omega); intro t'w)
  k_with "mine:binaryOp Mult int float" => (k_here; (with_reducible refine' mulIF_r ?me ?mk3 ?_); (case me => first | assumption | exact rfl); (case mk3 => omega); intro t'w)
  k_with "mine:call builtin:round" => (k_here; (with_reducible show wpAny _ _ (call (Value.builtin "round") [Value.float _ _]) _ _ _); (with_reducible refine' round_r ?mhf ?me ?mkh ?_); (case mhf => assumption); (case me => first | assumption | exact rfl); (case mkh => k_dflt rfl); intro t'w)
  k_with "mine:call builtin:max" => (k_here; first
    | ((with_reducible show wpAny _ _ (call (Value.builtin "max") [Value.ref _]) _ _ _); (with_reducible refine' max_l3 ?me ?mkh ?mk1 ?mk2 ?mk3 ?_); (case mk1 => k_asm); (case mk2 => k_asm); (case mk3 => k_dflt k_mem); (case me => assumption); (case mkh => k_dflt rfl); intro h'w tk'w t'w F'w N'w; (try k_sweep))
    | ((with_reducible show wpAny _ _ (call (Value.builtin "max") [Value.int _ _, Value.int _ _]) _ _ _); (with_reducible refine' max2_r ?me ?mkh ?mk1 ?mk2 ?_); (case mk1 => k_asm); (case mk2 => k_asm); (case me => first | assumption | exact rfl); (case mkh => k_dflt rfl); intro h'w tk'w t'w F'w N'w; (try k_sweep)))
  k_with "mine:call builtin:min" => (k_here; first
    | ((with_reducible show wpAny _ _ (call (Value.builtin "min") [Value.ref _]) _ _ _); (with_reducible refine' min_l3 ?me ?mkh ?mk1 ?mk2 ?mk3 ?_); (case mk1 => k_asm); (case mk2 => k_asm); (case mk3 => k_dflt k_mem); (case me => assumption); (case mkh => k_dflt rfl); intro h'w tk'w t'w F'w N'w; (try k_sweep))
    | ((with_reducible show wpAny _ _ (call (Value.builtin "min") [Value.int _ _, Value.int _ _]) _ _ _); (with_reducible refine' min2_r ?me ?mkh ?mk1 ?mk2 ?_); (case mk1 => k_asm); (case mk2 => k_asm); (case me => first | assumption | exact rfl); (case mkh => k_dflt rfl); intro h'w tk'w t'w F'w N'w; (try k_sweep)))
  k_with "mine:ite" => (k_here; first
    | (with_reducible refine ite_neg (by first | assumption | exact Bool.eq_false_iff.mp (by assumption) | (simp only [decide_true, decide_false, Bool.not_true, Bool.not_false, eq_self, Bool.false_eq_true, not_false_eq_true]; done) | ((try simp only [beq_iff_eq, bne_iff_ne, decide_eq_true_eq, ne_eq, Bool.not_eq_true', decide_eq_false_iff_not, Int.not_lt, Int.not_le]); omega)) ?_)
    | (with_reducible refine ite_pos (by first | assumption | (simp only [decide_true, decide_false, Bool.not_true, Bool.not_false, eq_self, Bool.false_eq_true, not_false_eq_true]; done) | ((try simp only [beq_iff_eq, bne_iff_ne, decide_eq_true_eq, ne_eq, Bool.not_eq_true', decide_eq_false_iff_not, Int.not_lt, Int.not_le]); omega)) ?_))
  k_with "mine:compareOp NotIn" => (k_here; (with_reducible show wpAny _ _ (compareOp CmpOp.NotIn (Value.int _ _) (Value.ref _)) _ _ _); (with_reducible refine' notIn_range ?mk1 ?mk2 ?mk3 ?_); (case mk1 => k_dflt assumption); (case mk2 => omega); (case mk3 => omega))
  k_with "mine:compareOp NotIn int ref" => (walk_at "compareOp NotIn")
  k_with "mine:binaryOp FloorDiv int int" => (k_here; (with_reducible refine' fdiv_r ?me ?mk2 ?mk3 ?_); (case me => first | assumption | exact rfl); (case mk2 => first | decide | omega); (case mk3 => first | decide | omega); intro t'w)
  k_with "mine:binaryOp Mod int int" => (k_here; (with_reducible refine' fmod_r ?me ?mk2 ?_); (case me => first | assumption | exact rfl); (case mk2 => first | decide | omega); intro t'w)
  k_with "mine enterC" => (refine' code_defPC ?mk1 ?mk2 ?mk3 ?mk4 ?mk5 ?mkA ?mkF ?mkK ?mk6 ?mk7 ?mk8 ?mk9 ?mkB ?mkD ?_ ?mc2 ?mc3 ?mc4; (case mkA => exact rfl); (case mkF => exact rfl); (case mkK => assumption); (case mk1 => k_asm); (case mk2 => k_asm); (case mk3 => k_asm); (case mk4 => k_asm); (case mk5 => k_asm); (case mk6 => k_is); (case mk7 => k_is); (case mk8 => ktr_room); (case mk9 => exact BindsTo.of_eq rfl); (case mkB => exact rfl); (case mkD => decide +kernel); (case mc2 => exact rfl); (case mc3 => exact rfl); (case mc4 => exact rfl); k_whole; intro g'w L'w h'w tk'w cells'w hH'w FG'w F'w N'w Y'w B'w X'w T'w l1'w; (try k_lt l1'w); k_cells Y'w; (try simp only [List.cons_append, List.nil_append] at N'w); (try dsimp only); (try k_lift B'w); (try k_fold); refine cut ?_; intro qq'w hq'w; refine letA ?_; intro A1'w)
  k_with "mine startC" => (dsimp only [Ctr]; k_fill; intros; refine wpAny_call ?_; k_dflt (k_extra "mine enterC"))
  k_with "mine:CTup" => (k_here; k_dflt (refine CTup.at (by rfl) (by k_asm) (by k_asm) (by k_mem) (by exact Nat.le_of_ble_eq_true rfl) ?_; intro g'w; lcg_lit))
  k_with "mine:CTupT" => (k_here; k_dflt (refine CTupT.at (by rfl) (by k_asm) (by k_asm) (by k_mem) (by exact Nat.le_of_ble_eq_true rfl) ?_; intro g'w; lct_lit))
  k_with "mine:pyIter ref" => (k_here; (with_reducible show wpAny _ _ (pyIter (Value.ref _)) (fun it s₂ => TurnsAt _ _ _ _ _ _ _ _ _ it s₂) _ _); ktu_seq)
  k_with "mine updF" => (first | (refine' UpdF.head ?ma; (case ma => k_extra "mine off")) | (refine' UpdF.tail ?ma ?mb; (case ma => k_ne); (case mb => k_extra "mine updF")))
  k_with "mine:storeName" => (k_here; k_dflt (first
    | (refine' storeX_L ?mF ?mN ?_ ?ma ?mb; (case ma => rfl); (case mb => rfl); (case mF => k_asm); (case mN => k_asm); k_whole; intro h'w F'w N'w; (try k_sweep))
    | (refine' storeX_C ?mF ?mN ?mc ?mU ?md ?_ ?ma ?mb; (case ma => rfl); (case mb => rfl); (case mF => k_asm); (case mN => k_asm); (case mc => rfl); (case mU => k_extra "mine updF"); (case md => k_asm); k_whole; intro h'w o'w F'w N'w d'w; (try dsimp only at N'w); (try k_sweep))))
  k_with "mine:CompSrc" => (k_here; k_dflt (refine LCg.CompSrc.ledger (by rfl) (by k_asm) (by k_asm) (by k_mem) (by exact Nat.le_of_ble_eq_true rfl) ?_; intro g'w; lcg_lit))
  k_with "mine enterC" => (refine' code_defPC2 ?mkb ?mk1 ?mk2 ?mk3 ?mk4 ?mk5 ?mkA ?mkF ?mkK ?mk6 ?mk7 ?mk8 ?mk9 ?mkB ?mkD ?mkE ?mkG ?_ ?mc2 ?mc3 ?mc4; (case mkb => assumption); (case mkA => exact rfl); (case mkF => exact rfl); (case mkK => assumption); (case mk1 => k_asm); (case mk2 => k_asm); (case mk3 => k_asm); (case mk4 => k_asm); (case mk5 => k_asm); (case mk6 => k_is); (case mk7 => k_is); (case mk8 => ktr_room); (case mk9 => exact BindsTo.of_eq rfl); (case mkB => exact rfl); (case mkD => decide +kernel); (case mkE => intro _; rfl); (case mkG => intro _; rfl); (case mc2 => exact rfl); (case mc3 => exact rfl); (case mc4 => exact rfl); k_whole; intro g'w L'w h'w tk'w cells'w hH'w FG'w F'w N'w Y'w B'w X'w T'w l1'w; (try k_lt l1'w); k_cells Y'w; (try simp only [List.cons_append, List.nil_append] at N'w); (try dsimp only); (try k_lift B'w); (try k_fold); refine cut ?_; intro qq'w hq'w; refine letA ?_; intro A1'w)
  trivial
/-- the values are these ints -/
noncomputable def IntVs (vs : List Value) (ns : List Int) : Prop := ∃ ps : List (Int × Tok), vs = ps.map (fun p => .int p.1 p.2) ∧ ps.map (·.1) = ns
theorem IntVs.nil : IntVs [] [] := ⟨[], rfl, rfl⟩
theorem IntVs.snoc {vs : List Value} {ns : List Int} {k : Int} {t : Tok} (h : IntVs vs ns) : IntVs (vs ++ [.int k t]) (ns ++ [k]) := by
  obtain ⟨ps, rfl, rfl⟩ := h
  exact ⟨ps ++ [(k, t)], by simp, by simp⟩
theorem IntVs.len {vs : List Value} {ns : List Int} (h : IntVs vs ns) : vs.length = ns.length := by
  obtain ⟨ps, rfl, rfl⟩ := h; simp
noncomputable def sixCond (a b c : Nat) (n : Int) : Bool :=
  if n.fmod 2 = 0 then tk3 a b c (n.fdiv 2) ((n.fdiv 2 + 1).fmod 3) && !tk3 a b c ((n.fdiv 2 + 1).fmod 3) (n.fdiv 2) && tk3 a b c ((n.fdiv 2 + 1).fmod 3) ((n.fdiv 2 + 2).fmod 3)
  else tk3 a b c ((n.fdiv 2 + 1).fmod 3) (n.fdiv 2) && tk3 a b c (n.fdiv 2) ((n.fdiv 2 + 2).fmod 3) && !tk3 a b c ((n.fdiv 2 + 2).fmod 3) (n.fdiv 2)
noncomputable def sixL (a b c : Nat) : Nat → List Int
  | 0 => []
  | i + 1 => sixL a b c i ++ (if sixCond a b c (0 + (i : Int)) = true then [0 + (i : Int)] else [])
theorem sixL_len (a b c : Nat) : ∀ i, (sixL a b c i).length ≤ i
  | 0 => Nat.le_refl _
  | i + 1 => by
    have := sixL_len a b c i
    unfold sixL
    rw [List.length_append]
    split <;> simp <;> omega
theorem six_idx {i : Nat} (hi : i < 6) : (0 ≤ (0 + (i : Int)).fdiv 2 ∧ (0 + (i : Int)).fdiv 2 < 3) ∧ (0 ≤ ((0 + (i : Int)).fdiv 2 + 1).fmod 3 ∧ ((0 + (i : Int)).fdiv 2 + 1).fmod 3 < 3) ∧ (0 ≤ ((0 + (i : Int)).fdiv 2 + 2).fmod 3 ∧ ((0 + (i : Int)).fdiv 2 + 2).fmod 3 < 3) ∧ ((0 + (i : Int)).fmod 2 = 0 ∨ (0 + (i : Int)).fmod 2 = 1) := by
  match i, hi with
  | 0, _ => decide
  | 1, _ => decide
  | 2, _ => decide
  | 3, _ => decide
  | 4, _ => decide
  | 5, _ => decide
section
variable {prog : Program} {w : World} {A : Around} {E : Value → Shared → Prop} {s : Shared} {Q : Value → Shared → Prop} {h₀ : Heap} {L : Addr} {m : Str → Option Value} {news : List (Addr × Obj)} {g : Obj → List (Addr × Obj)}
theorem app_ws {D : Addr} {vs : List Value} {cap : Nat} {v : Value} (F : Fr h₀ L s.heap m) (N : News h₀ L s.heap news) (U : UpdF D (wsN vs cap) news g) (hsz : vs.length ≤ 1000)
    (h : ∀ h', Fr h₀ L h' m → News h₀ L h' (g (wsN (vs ++ [v]) (cap + 1))) → Q .none { s with heap := h' }) : wpAny (model prog w) A (call (.builtin "list.append") [.ref D, v]) Q E s := by
  obtain ⟨own, rest, rfl, hg, h1, h2⟩ := U.split
  have hmem := N (D, wsN vs cap) (List.mem_append_right _ (.head _))
  refine append_at (hsz := by have := sizeLine_eq; simp; omega) hmem.1 fun h' hs hD => ?_
  have e : ({ cls := .type "list", data := .seq (vs.toArray.push v) (cap + 1) } : Obj) = wsN (vs ++ [v]) (cap + 1) := by rw [List.push_toArray]
  rw [e] at hD
  exact h h' ⟨F.ns.sameBut hs (Ne.symm hmem.2.1), fun b ob eb => (hs.2 b (fun q => by rw [q, hmem.2.2] at eb; cases eb)).trans (F.keep b ob eb), F.above⟩ (hg _ ▸ N.setAt h1 h2 hs hD)
end
/-- what _law_sixths hands back -/
noncomputable def PSix (ns : List Int) (h h' : Heap) (v : Value) : Prop := ∃ D vs cap, v = .ref D ∧ h.get? D = none ∧ h'.get? D = some (wsN vs cap) ∧ IntVs vs ns
theorem ksetP43_27 : True := by
  k_with "mine:exec For Name Call cons nil" => (k_here; (rename Fr _ _ _ _ => lF'w); (with_unfolding_all refine' For_turns lF'w ?_; k_whole))
  k_with "mine:pyIter ref" => (k_here; (with_reducible show wpAny _ _ (pyIter (Value.ref _)) (fun it s₂ => TurnsAt _ _ _ _ _ _ _ _ _ it s₂) _ _); (refine' iter_rangeTurns (n := 6) ?mhh ?mhr ?msm ?mhn ?mF ?mN ?_; (case mhh => rfl); (case mhr => assumption); (case msm => decide); (case mhn => decide); (case mF => k_asm); (case mN => k_asm)); intro I'w l1'w; (try k_lt l1'w))
  k_with "mine idx" => (first | assumption | omega)
  k_with "mine:subscriptTail Name Name ref int" => (k_here; first
    | ((with_reducible show wpAny _ _ (subscriptTail _ _ (Value.ref (pick3 _ _ _ _)) (Value.int _ _)) _ _ _); k_dflt (refine' item_take ?mN ?mm0 ?mm1 ?mm2 ?mx0 ?mx3 ?my0 ?my3 ?_ ?mz; (case mN => k_asm); (case mm0 => k_mem); (case mm1 => k_mem); (case mm2 => k_mem); (case mx0 => assumption); (case mx3 => assumption); (case my0 => assumption); (case my3 => assumption); (case mz => (intro _; with_unfolding_all rfl))))
    | ((with_reducible show wpAny _ _ (subscriptTail _ _ (Value.ref _) (Value.int _ _)) _ _ _); k_dflt (refine' item_ref ?mN ?mm ?mc ?md ?mx0 ?mx3 ?_ ?mz; (case mN => k_asm); (case mm => k_mem); (case mc => rfl); (case md => exact ⟨_, rfl⟩); (case mx0 => assumption); (case mx3 => assumption); (case mz => with_unfolding_all rfl))))
  k_with "mine:subscriptTail Subscript" => (walk_at "subscriptTail Name Name ref int")
  k_with "mine:call builtin:list.append" => (k_here; (refine' app_ws ?mF ?mN ?mU ?mz ?_; (case mF => k_asm); (case mN => k_asm); (case mU => k_extra "mine updF"); (case mz => omega)); intro h'w F'w N'w)
  trivial

noncomputable def SixNo (A B C P : Prop) : Prop := A ∨ B ∨ C → P
noncomputable def SixYes (A B C : Prop) (P : Tok → Prop) : Prop := A ∧ B ∧ C → ∀ t, P t
theorem ksetP43_28 : True := by
  k_with "mine six" => (first
    | ((rename SixNo _ _ _ _ => hN'w); first | exact hN'w (Or.inl (by assumption)) | exact hN'w (Or.inr (Or.inl (by assumption))) | exact hN'w (Or.inr (Or.inr (by assumption))))
    | ((rename SixYes _ _ _ _ => hY'w); exact hY'w ⟨by assumption, by assumption, by assumption⟩ _))
  k_with "mine:UnrEndW" => (refine' UnrEndW.introL ?mF ?mN ?mhD ?mhR ?mhI ?mhb ?moff ?mhm; (case mF => k_asm); (case mN => k_asm); (case mhD => k_mem); (case mhI => k_subL); (case mhb => k_subL); (case moff => ktu_offL); (case mhR => k_extra "mine six"); (case mhm => (intro y hy; (simp only [List.mem_cons, List.not_mem_nil, or_false, not_or] at hy); (obtain ⟨hy1, hy2, hy3, hy4⟩ := hy); first | (k_extra "mine same"; done) | rfl | (simp +zetaDelta [hy1, hy2, hy3, hy4]; done))))
  trivial

theorem sixths_c (w mean mg mb) (l r0 r1 r2 : Addr) (a b c : Nat) : Ctr w mean mg mb 112 [.ref l] [(l, LCg.lst [.ref r0, .ref r1, .ref r2]), (r0, bl3 a b c a), (r1, bl3 a b c b), (r2, bl3 a b c c)] 1 (PSix (sixL a b c 6)) := by
  have hB : Bnd [(Str.ofString "takes", .ref l)] := trivial
  k_extra "mine start"
  iterate 60 (first | ((with_reducible show ItemsRest _ _ _ _ _ _ _ _ _ _ _ _ _ _ _); skip) | k_extra "mine step" | skip)
  refine' ItemsRest.invL (Str.ofString "found") [Str.ofString "n", Str.ofString "x", Str.ofString "y", Str.ofString "z"] [(l, LCg.lst [.ref r0, .ref r1, .ref r2]), (r0, bl3 a b c a), (r1, bl3 a b c b), (r2, bl3 a b c c)] (fun i vs => IntVs vs (sixL a b c i)) ?h1 ?h2 ?h3 ?h4 ?turn ?done
  case h1 => rfl
  case h2 => exact List.Mem.head _
  case h3 => exact IntVs.nil
  case h4 => k_subL
  case turn =>
    intro i t5 u5 vs cap h tk hi hR F
    refine named ?_
    intro Gt kt
    obtain ⟨⟨x0, x3⟩, ⟨y0, y3⟩, ⟨z0, z3⟩, hpar⟩ := six_idx hi
    have hvl := hR.len
    have hsl := sixL_len a b c i
    have hS : sixL a b c (i + 1) = sixL a b c i ++ (if sixCond a b c (0 + (i : Int)) = true then [0 + (i : Int)] else []) := rfl
    unfold sixCond at hS
    generalize (0 : Int) + (i : Int) = n at *
    generalize hx : n.fdiv 2 = x at *
    generalize hy : (x + 1).fmod 3 = y at *
    generalize hz : (x + 2).fmod 3 = z at *
    refine kt ?_
    clear kt
    simp only [dirt] at F
    ktu_objs
    rename News _ _ _ _ => N
    dsimp only [envOf] at F N
    (try k_fold)
    refine cut2 ?_
    intro q3 hq3
    rcases hpar with hp | hp
    · rw [if_pos hp] at hS
      have hNo : SixNo (tk3 a b c x y = false) (tk3 a b c y x = true) (tk3 a b c y z = false) (IntVs vs (sixL a b c (i + 1))) := fun h => by
        rw [hS, if_neg (by rcases h with h | h | h <;> simp [h]), List.append_nil]; exact hR
      have hYes : SixYes (tk3 a b c x y = true) (tk3 a b c y x = false) (tk3 a b c y z = true) (fun t => IntVs (vs ++ [.int n t]) (sixL a b c (i + 1))) := fun h t => by
        rw [hS, if_pos (by obtain ⟨h1, h2, h3⟩ := h; simp [h1, h2, h3])]; exact hR.snoc
      clear hS
      k_steps
    · rw [if_neg (show ¬ n.fmod 2 = 0 by rw [hp]; decide)] at hS
      have hNo : SixNo (tk3 a b c y x = false) (tk3 a b c x z = false) (tk3 a b c z x = true) (IntVs vs (sixL a b c (i + 1))) := fun h => by
        rw [hS, if_neg (by rcases h with h | h | h <;> simp [h]), List.append_nil]; exact hR
      have hYes : SixYes (tk3 a b c y x = true) (tk3 a b c x z = true) (tk3 a b c z x = false) (fun t => IntVs (vs ++ [.int n t]) (sixL a b c (i + 1))) := fun h t => by
        rw [hS, if_pos (by obtain ⟨h1, h2, h3⟩ := h; simp [h1, h2, h3])]; exact hR.snoc
      clear hS
      k_steps
  case done =>
    intro u5 vs cap h tk hR F N
    simp only [dirt] at F
    dsimp only [envOf] at F N
    (try dsimp only)
    k_steps
    k_extra "mine ret"
    refine ⟨_, vs, cap, rfl, ?_, News.get (by with_reducible assumption) (by k_mem), hR⟩
    k_extra "mine fresh"
end
section

open PySem.Float64
theorem six_val {a : Int} (h0 : 0 ≤ a) (h1 : a ≤ 16) : Fini (divI a 16) ∧ val (divI a 16) * 1600000000000000000000 = a * 28147497671065600000000000000000000 * JJ := by
  obtain ⟨f, x1, x2⟩ := six_in h0 h1
  exact ⟨f, by omega⟩
theorem six_lt {a b : Int} (a0 : 0 ≤ a) (a1 : a ≤ 16) (b0 : 0 ≤ b) (b1 : b ≤ 16) : (cmp (divI a 16) (divI b 16) == some Ordering.lt) = decide (a < b) := by
  obtain ⟨fa, ea⟩ := six_val a0 a1
  obtain ⟨fb, eb⟩ := six_val b0 b1
  rw [lt_val fa fb]
  have hJ := J_pos
  by_cases h : a < b
  · rw [decide_eq_true h, decide_eq_true]
    have := Int.mul_lt_mul_of_pos_right (show a * 28147497671065600000000000000000000 < b * 28147497671065600000000000000000000 by omega) hJ
    omega
  · rw [decide_eq_false h, decide_eq_false]
    have := le_J (show b * 28147497671065600000000000000000000 ≤ a * 28147497671065600000000000000000000 by omega)
    omega
theorem six_eq {a b : Int} (a0 : 0 ≤ a) (a1 : a ≤ 16) (b0 : 0 ≤ b) (b1 : b ≤ 16) : (cmp (divI a 16) (divI b 16) == some Ordering.eq) = decide (a = b) := by
  obtain ⟨fa, ea⟩ := six_val a0 a1
  obtain ⟨fb, eb⟩ := six_val b0 b1
  rw [eq_val fa fb]
  have hJ := J_pos
  by_cases h : a = b
  · subst h; rw [decide_eq_true rfl, decide_eq_true rfl]
  · rw [decide_eq_false h, decide_eq_false]
    intro e
    rw [e] at ea
    rcases Int.lt_trichotomy a b with q | q | q
    · have := Int.mul_lt_mul_of_pos_right (show a * 28147497671065600000000000000000000 < b * 28147497671065600000000000000000000 by omega) hJ; omega
    · exact h q
    · have := Int.mul_lt_mul_of_pos_right (show b * 28147497671065600000000000000000000 < a * 28147497671065600000000000000000000 by omega) hJ; omega
theorem six_max {a b c : Int} (a0 : 0 ≤ a) (a1 : a ≤ 16) (b0 : 0 ≤ b) (b1 : b ≤ 16) (c0 : 0 ≤ c) (c1 : c ≤ 16) : fmax3 (divI a 16) (divI b 16) (divI c 16) = divI (imax3 a b c) 16 := by
  unfold fmax3 imax3
  rw [six_lt a0 a1 b0 b1]
  by_cases h : a < b
  · rw [decide_eq_true h, if_pos rfl, six_lt b0 b1 c0 c1]
    by_cases h2 : b < c
    · rw [decide_eq_true h2, if_pos rfl, show max (max a b) c = c by omega]
    · rw [decide_eq_false h2, if_neg Bool.false_ne_true, show max (max a b) c = b by omega]
  · simp only [decide_eq_false h, Bool.false_eq_true, if_false]; rw [six_lt a0 a1 c0 c1]
    by_cases h2 : a < c
    · rw [decide_eq_true h2, if_pos rfl, show max (max a b) c = c by omega]
    · rw [decide_eq_false h2, if_neg Bool.false_ne_true, show max (max a b) c = a by omega]
theorem six_min {a b c : Int} (a0 : 0 ≤ a) (a1 : a ≤ 16) (b0 : 0 ≤ b) (b1 : b ≤ 16) (c0 : 0 ≤ c) (c1 : c ≤ 16) : fmin3 (divI a 16) (divI b 16) (divI c 16) = divI (imin3 a b c) 16 := by
  unfold fmin3 imin3
  rw [six_lt b0 b1 a0 a1]
  by_cases h : b < a
  · rw [decide_eq_true h, if_pos rfl, six_lt c0 c1 b0 b1]
    by_cases h2 : c < b
    · rw [decide_eq_true h2, if_pos rfl, show min (min a b) c = c by omega]
    · rw [decide_eq_false h2, if_neg Bool.false_ne_true, show min (min a b) c = b by omega]
  · simp only [decide_eq_false h, Bool.false_eq_true, if_false]; rw [six_lt c0 c1 a0 a1]
    by_cases h2 : c < a
    · rw [decide_eq_true h2, if_pos rfl, show min (min a b) c = c by omega]
    · rw [decide_eq_false h2, if_neg Bool.false_ne_true, show min (min a b) c = a by omega]
/-- thirteen cases, each a step of its own -/
theorem all13 {f : Nat → Bool} (h0 : f 0 = true) (h1 : f 1 = true) (h2 : f 2 = true) (h3 : f 3 = true) (h4 : f 4 = true) (h5 : f 5 = true) (h6 : f 6 = true) (h7 : f 7 = true) (h8 : f 8 = true) (h9 : f 9 = true) (h10 : f 10 = true) (h11 : f 11 = true) (h12 : f 12 = true) : (List.range 13).all f = true := by
  show (f 0 && (f 1 && (f 2 && (f 3 && (f 4 && (f 5 && (f 6 && (f 7 && (f 8 && (f 9 && (f 10 && (f 11 && (f 12 && true))))))))))))) = true
  rw [h0, h1, h2, h3, h4, h5, h6, h7, h8, h9, h10, h11, h12]
  rfl
noncomputable def subB (h a : Nat) : Bool := decide (h < a) || Float64.sub (divI (h : Int) 16) (divI (a : Int) 16) == divI ((h : Int) - a) 16
theorem sub_all : (List.range 13).all (fun h => (List.range 13).all (subB h)) = true := all13 (by decide +kernel) (by decide +kernel) (by decide +kernel) (by decide +kernel) (by decide +kernel) (by decide +kernel) (by decide +kernel) (by decide +kernel) (by decide +kernel) (by decide +kernel) (by decide +kernel) (by decide +kernel) (by decide +kernel)
theorem six_sub {h a : Int} (a0 : 0 ≤ a) (ah : a ≤ h) (h1 : h ≤ 12) : Float64.sub (divI h 16) (divI a 16) = divI (h - a) 16 := by
  obtain ⟨n, rfl⟩ : ∃ n : Nat, a = n := ⟨a.toNat, by omega⟩
  obtain ⟨k, rfl⟩ : ∃ k : Nat, h = k := ⟨h.toNat, by omega⟩
  have := List.all_eq_true.mp (List.all_eq_true.mp sub_all k (List.mem_range.mpr (by omega))) n (List.mem_range.mpr (by omega))
  unfold subB at this
  rw [decide_eq_false (by omega), Bool.false_or] at this
  exact eq_of_beq this
/-- what hangs on the greatest and the least alone -/
noncomputable def pairB (hi lo : Nat) : Bool :=
  decide (hi ≤ lo) ||
  (!Float64.isZero (divI (hi : Int) 16) && !Float64.isZero (divI ((hi : Int) - lo) 16) &&
   !(Float64.cmp (Float64.div (Float64.add (divI (hi : Int) 16) (divI (lo : Int) 16)) 4611686018427387904) (divI ((hi : Int) + lo) 32) != some Ordering.eq) &&
   nearB (Float64.mul (Float64.div (divI ((hi : Int) - lo) 16) (divI (hi : Int) 16)) (Float64.ofInt hi)) ((hi : Int) - lo) &&
   (let d := (if (Float64.cmp (Float64.div (Float64.add (divI (hi : Int) 16) (divI (lo : Int) 16)) 4611686018427387904) 4602678819172646912 == some Ordering.lt || Float64.cmp (Float64.div (Float64.add (divI (hi : Int) 16) (divI (lo : Int) 16)) 4611686018427387904) 4602678819172646912 == some Ordering.eq) = true then Float64.add (divI (hi : Int) 16) (divI (lo : Int) 16) else Float64.sub (Float64.sub 4611686018427387904 (divI (hi : Int) 16)) (divI (lo : Int) 16))
    !Float64.isZero d && nearB (Float64.mul (Float64.div (divI ((hi : Int) - lo) 16) d) (Float64.ofInt (min ((hi : Int) + lo) (32 - hi - lo)))) ((hi : Int) - lo)))
theorem pair_all : (List.range 13).all (fun h => (List.range 13).all (pairB h)) = true := all13 (by decide +kernel) (by decide +kernel) (by decide +kernel) (by decide +kernel) (by decide +kernel) (by decide +kernel) (by decide +kernel) (by decide +kernel) (by decide +kernel) (by decide +kernel) (by decide +kernel) (by decide +kernel) (by decide +kernel)
/-- the hue by the distances from the greatest -/
noncomputable def hueD (da db dc D : Int) : UInt64 :=
  (Float64.divmod (Float64.div
    (if da = 0 then Float64.sub (Float64.div (divI dc 16) (divI D 16)) (Float64.div (divI db 16) (divI D 16))
     else if db = 0 then Float64.sub (Float64.add 4611686018427387904 (Float64.div (divI da 16) (divI D 16))) (Float64.div (divI dc 16) (divI D 16))
     else Float64.sub (Float64.add 4616189618054758400 (Float64.div (divI db 16) (divI D 16))) (Float64.div (divI da 16) (divI D 16)))
    4618441417868443648) 4607182418800017408).snd
noncomputable def wheel (step D corner : Int) : Int := min D (max 0 (min ((step - corner).fmod (6 * D)) ((corner - step).fmod (6 * D)) - D))
noncomputable def stepD (da db dc D : Int) : Int := toInt Float64.nearestOf (Float64.mul (Float64.mul (hueD da db dc D) (Float64.ofInt 6)) (Float64.ofInt D))
noncomputable def hueB (da db dc : Nat) : Bool :=
  let D : Int := imax3 da db dc
  decide (imin3 (da : Int) db dc ≠ 0) || decide (D = 0) ||
  (let f3 := Float64.mul (Float64.mul (hueD da db dc D) (Float64.ofInt 6)) (Float64.ofInt D)
   let step := toInt Float64.nearestOf f3
   Float64.isFinite f3 && nearB f3 step && decide (0 ≤ step ∧ step < 6 * D) && decide (wheel step D 0 = da) && decide (wheel step D (2 * D) = db) && decide (wheel step D (4 * D) = dc) &&
   decide (sixL (12 - da) (12 - db) (12 - dc) 6 = [step.fdiv D]))
theorem hue_0 : (List.range 13).all (fun b => (List.range 13).all (hueB 0 b)) = true := all13 (by decide +kernel) (by decide +kernel) (by decide +kernel) (by decide +kernel) (by decide +kernel) (by decide +kernel) (by decide +kernel) (by decide +kernel) (by decide +kernel) (by decide +kernel) (by decide +kernel) (by decide +kernel) (by decide +kernel)
theorem hue_1 : (List.range 13).all (fun a => (List.range 13).all (hueB a 0)) = true := all13 (by decide +kernel) (by decide +kernel) (by decide +kernel) (by decide +kernel) (by decide +kernel) (by decide +kernel) (by decide +kernel) (by decide +kernel) (by decide +kernel) (by decide +kernel) (by decide +kernel) (by decide +kernel) (by decide +kernel)
theorem hue_2 : (List.range 13).all (fun a => (List.range 13).all (fun b => hueB a b 0)) = true := all13 (by decide +kernel) (by decide +kernel) (by decide +kernel) (by decide +kernel) (by decide +kernel) (by decide +kernel) (by decide +kernel) (by decide +kernel) (by decide +kernel) (by decide +kernel) (by decide +kernel) (by decide +kernel) (by decide +kernel)


theorem hue_at {da db dc : Int} (a0 : 0 ≤ da) (a1 : da ≤ 12) (b0 : 0 ≤ db) (b1 : db ≤ 12) (c0 : 0 ≤ dc) (c1 : dc ≤ 12) (hm : imin3 da db dc = 0) {D : Int} (eD : imax3 da db dc = D) (hD : D ≠ 0) :
    Float64.isFinite (Float64.mul (Float64.mul (hueD da db dc D) (Float64.ofInt 6)) (Float64.ofInt D)) = true ∧ nearB (Float64.mul (Float64.mul (hueD da db dc D) (Float64.ofInt 6)) (Float64.ofInt D)) (stepD da db dc D) = true ∧
    (0 ≤ stepD da db dc D ∧ stepD da db dc D < 6 * D) ∧ wheel (stepD da db dc D) D 0 = da ∧ wheel (stepD da db dc D) D (2 * D) = db ∧ wheel (stepD da db dc D) D (4 * D) = dc ∧
    sixL (12 - da.toNat) (12 - db.toNat) (12 - dc.toNat) 6 = [(stepD da db dc D).fdiv D] := by
  obtain ⟨a, rfl⟩ : ∃ n : Nat, da = n := ⟨da.toNat, by omega⟩
  obtain ⟨b, rfl⟩ : ∃ n : Nat, db = n := ⟨db.toNat, by omega⟩
  obtain ⟨c, rfl⟩ : ∃ n : Nat, dc = n := ⟨dc.toNat, by omega⟩
  have hz : a = 0 ∨ b = 0 ∨ c = 0 := by unfold imin3 at hm; omega
  have h : hueB a b c = true := by
    rcases hz with rfl | rfl | rfl
    · exact List.all_eq_true.mp (List.all_eq_true.mp hue_0 b (List.mem_range.mpr (by omega))) c (List.mem_range.mpr (by omega))
    · exact List.all_eq_true.mp (List.all_eq_true.mp hue_1 a (List.mem_range.mpr (by omega))) c (List.mem_range.mpr (by omega))
    · exact List.all_eq_true.mp (List.all_eq_true.mp hue_2 a (List.mem_range.mpr (by omega))) b (List.mem_range.mpr (by omega))
  unfold hueB at h
  simp only [eD] at h
  rw [decide_eq_false (show ¬ imin3 (a : Int) b c ≠ 0 from fun k => k hm), decide_eq_false hD, Bool.false_or, Bool.false_or] at h
  simp only [Bool.and_eq_true, decide_eq_true_eq] at h
  obtain ⟨⟨⟨⟨⟨⟨h1, h2⟩, h3⟩, h4⟩, h5⟩, h6⟩, h7⟩ := h
  exact ⟨h1, h2, h3, h4, h5, h6, h7⟩
/-- the sixths hang on the order alone -/
theorem tk3_shift {a b c a' b' c' s : Nat} (ha : a' = a + s) (hb : b' = b + s) (hc : c' = c + s) (x y : Int) : tk3 a' b' c' x y = tk3 a b c x y := by
  subst ha hb hc
  unfold tk3
  apply decide_eq_decide.mpr
  unfold pick3
  split <;> (try split) <;> (try split) <;> (try split) <;> omega
theorem sixL_shift {a b c a' b' c' s : Nat} (ha : a' = a + s) (hb : b' = b + s) (hc : c' = c + s) : ∀ i, sixL a' b' c' i = sixL a b c i
  | 0 => rfl
  | i + 1 => by
    unfold sixL sixCond
    rw [sixL_shift ha hb hc i]
    simp only [tk3_shift ha hb hc]
theorem tk3_same (a : Nat) (x y : Int) : tk3 a a a x y = true := by
  unfold tk3
  apply decide_eq_true
  unfold pick3
  split <;> (try split) <;> (try split) <;> (try split) <;> omega
theorem sixL_same (a : Nat) : ∀ i, sixL a a a i = []
  | 0 => rfl
  | i + 1 => by
    unfold sixL sixCond
    rw [sixL_same a i]
    simp [tk3_same]
end
section
theorem ksetP44b_32 : True := by
  k_with_none
  k_with "mine enter" => (refine' code_defP ?mkb ?mk1 ?mk2 ?mk3 ?mk4 ?mk5 ?mkA ?mkF ?mkK ?mk6 ?mk7 ?mk8 ?mk9 ?mkB ?_ ?mc2 ?mc3 ?mc4 ?mc5; (case mkb => assumption); (case mkA => exact rfl); (case mkF => exact rfl); (case mkK => assumption); (case mk1 => k_asm); (case mk2 => k_asm); (case mk3 => k_asm); (case mk4 => k_asm); (case mk5 => k_asm); (case mk6 => k_is); (case mk7 => k_is); (case mk8 => ktr_room); (case mk9 => exact BindsTo.of_eq rfl); (case mc5 => decide); (case mkB => exact locs rfl); (case mc2 => exact rfl); (case mc3 => exact rfl); (case mc4 => exact rfl); k_whole; intro g'w L'w h'w hH'w FG'w F'w N'w B'w X'w T'w; (try simp only [List.reverse_cons, List.reverse_nil, List.nil_append, List.cons_append, List.length_cons, List.length_nil]); (try dsimp only); (try k_lift B'w); (try k_fold); refine cut ?_; intro qq'w hq'w; refine letA ?_; intro A1'w)
  k_with "mine start" => (w_top off; dsimp only [Ctr]; k_fill; intros; refine wpAny_call ?_; k_dflt (k_extra "mine enter"))
  k_with "mine keeps" => (refine' keeps_of ?mq1 ?mq2 ?mq3 ?mq4 ?mq5; (case mq1 => with_reducible assumption); (case mq2 => with_reducible assumption); (case mq3 => with_reducible assumption); (case mq4 => with_reducible assumption); (case mq5 => lcg_sub))
  k_with "mine off" => (first | exact List.forall_mem_nil _ | (refine List.forall_mem_cons.mpr ⟨?ma, ?mb⟩; (case ma => k_ne); (case mb => k_extra "mine off")))
  k_with "mine fresh" => (refine' fresh_of ?mq1 ?mq2 ?mq3 ?mq4; (case mq1 => with_reducible assumption); (case mq2 => with_reducible assumption); (case mq3 => k_mem); (case mq4 => k_extra "mine off"))
  k_with "mine ret" => ((rename RetOf _ _ _ => hR'w); refine' RetOf.at hR'w ?mkk ?_; (case mkk => k_extra "mine keeps"))
  k_with "mine tup3" => (k_extra "mine ret"; refine' ⟨_, _, _, _, rfl, ?mkf, ?mkg, ?_⟩; (case mkg => exact News.get (by with_reducible assumption) (by k_mem)); (case mkf => k_extra "mine fresh"))
  k_with "mine:execs cons" => (k_here; first | (refine' execs_cutL ?mhs ?mF ?mN ?_; (case mhs => first | (dsimp only; exact rfl) | dsimp only | exact rfl); (case mF => k_asm); (case mN => k_asm); intro m1'w n1'w F1'w N1'w q'w hq'w; try dsimp only at F1'w N1'w) | (refine' execs_cut ?_; intro q'w hq'w))
  k_with "mine:execs cons" => (k_here; (with_reducible show wpAny _ _ _ _ _ (Shared.mk _ _ _ (_ + _) _)); refine' gen_toks ?mhX ?_; (case mhX => omega); intro tk'w htk'w)
  k_with "mine:execs nil" => (k_here; (with_reducible show wpAny _ _ _ _ _ (Shared.mk _ _ _ (_ + _) _)); refine' gen_toks ?mhX ?_; (case mhX => omega); intro tk'w htk'w)
  k_with "mine units" => ((have hcL9 := cLine_is); (try simp +zetaDelta only [units_in1, units_deeper, Around.mark_units, units_caller]); (try dsimp +zetaDelta only [ktrTop]); omega)
  k_with "mine step" => (first | (k_unfold; (try dsimp only)) | (k_end; wrow_close) | walk1 | (dsimp only; walk1) | (leave1; walk_say "STEP leave1"; try dsimp only))
  k_with "mine ne" => (first | with_reducible assumption | (refine Ne.symm ?_; with_reducible assumption) | (refine Nat.ne_of_lt ?_; with_reducible assumption) | (refine Nat.ne_of_gt ?_; with_reducible assumption) | (refine neN ?_; (try dsimp only); (try simp only [ne_eq]); omega))
  k_with "mine:Held" => (refine Held.go (by with_reducible assumption) ?_; try dsimp only)
  k_with "mine offs" => (k_dflt ((rename LCg.Off1 _ _ => hq'w); refine Off1c.of hq'w ?_; clear hq'w; (repeat intro o2'w); refine ⟨?_⟩))
  k_with "mine:FinE" => ((unfold LCg.FinE); intro D'w h'w tk'w F'w N'w o1'w; (try simp only [List.nil_append, List.cons_append] at N'w o1'w); k_extra "mine offs"; (try dsimp only))
  k_with "mine:CompRest" => (with_unfolding_all first
    | (refine LCg.CompRest.succ ?_; intro v'w I'w oI'w C'w oC'w D'w m'w h'w tk'w E'w hv'w hC'w hx'w F'w N'w off'w ne'w; (first | lcg_open hv'w | (obtain ⟨t9'w, hv9'w⟩ := hv'w; subst hv9'w)); refine cut ?_; intro q4'w hq4'w)
    | refine LCg.CompRest.zero ?_)
  k_with "mine:CompRestT" => (with_unfolding_all first
    | (refine LCt.CompRestT.succ ?_; intro v'w I'w oI'w C'w oC'w D'w m'w h'w tk'w E'w hv'w hC'w hx'w F'w N'w off'w ne'w; (first | lcg_open hv'w | (obtain ⟨t9'w, hv9'w⟩ := hv'w; subst hv9'w)))
    | refine LCt.CompRestT.zero ?_)
  k_with "mine:CompEnd" => (refine LCg.CompEnd.intro (by k_asm) (by k_asm) _ (fun _ hp => hp) (by with_reducible assumption) (by lcg_src) ?_)
  k_with "mine arith" => (first | exact Nat.succ_pos _ | with_reducible assumption | (with_reducible exact ar_r0 (by assumption)) | (with_reducible exact ar_r2 (by assumption) (by decide)) | (with_reducible exact ar_r1 (by assumption) (by decide)) | (with_reducible exact ar_absC (by assumption) (by decide)) | (with_reducible exact ar_abs (by assumption) (by assumption) (by decide)) | (with_reducible exact ar_absN (by assumption) (by decide)) | (with_reducible exact ar_absM) | (with_reducible exact ar_absL (by assumption) (by decide)) | (with_reducible exact ar_cle (by assumption) (by decide)) | (with_reducible exact Int.natCast_nonneg _) | (with_reducible exact ar_min0) | (with_reducible exact ar_min1 (by decide)) | (with_reducible exact ar_sc (by assumption) (by decide)) | (with_reducible exact Nat.le_trans (by assumption) (by decide)) | decide)
  k_with "mine mem" => (first | exact memk 0 rfl | exact memk 1 rfl | exact memk 2 rfl | exact memk 3 rfl | exact memk 4 rfl | exact memk 5 rfl | exact memk 6 rfl | exact memk 7 rfl | exact memk 8 rfl | exact memk 9 rfl | exact memk 10 rfl | exact memk 11 rfl | exact memk 12 rfl | exact memk 13 rfl | exact memk 14 rfl | exact memk 15 rfl | exact memk 16 rfl | exact memk 17 rfl | exact memk 18 rfl | exact memk 19 rfl)
  k_with "mine same" => ((repeat (rename (¬ _) ∧ _ => hz'w; have hz1'w := And.left hz'w; have hz2'w := And.right hz'w; clear hz'w)); (repeat (first | with_reducible rfl | (refine (if_neg (by assumption)).trans ?_))))
  k_with "mine use" => ((case mk1 => k_asm); (case mk2 => k_asm); (case mk3 => k_asm); (case mk4 => k_asm); (case mk5 => k_asm); (case mk6 => exact rfl); (case mk7 => lcg_sub); (case mk8 => ktr_room); (case mk9 => units_room))
  k_with "mine:subscriptTail Name Constant ref int" => (k_here; (with_reducible show wpAny _ _ (subscriptTail _ _ (Value.ref _) (Value.int _ _)) _ _ _); kim_at)
  k_with "mine:subscriptTail Name Constant ref int" => (k_here; (with_reducible show wpAny _ _ (subscriptTail _ _ (Value.ref _) (Value.int _ _)) _ _ _); (with_unfolding_all refine' item_litK ?mk1 ?mk2 ?mk3 ?mk4 ?_ ?mk6; (case mk1 => is_list); (case mk2 => decide); (case mk3 => decide); (case mk4 => rfl); (case mk6 => with_unfolding_all rfl); k_whole))
  k_with "mine:binaryOp Div int int" => (k_here; (with_reducible refine' divI_r ?me ?mk1 ?mk2 ?mk3 ?_); (case me => first | assumption | exact rfl); (case mk1 => k_dflt rfl); (case mk2 => first | decide | omega); (case mk3 => omega); intro t'w)
  k_with "mine:binaryOp Mult float int" => (k_here; (with_reducible refine' mulFI_r ?me ?mk3 ?_); (case me => first | assumption | exact rfl); (case mk3 => omega); intro t'w)
  k_with "mine:binaryOp Mult int float" => (k_here; (with_reducible refine' mulIF_r ?me ?mk3 ?_); (case me => first | assumption | exact rfl); (case mk3 => omega); intro t'w)
  k_with "mine:call builtin:round" => (k_here; (with_reducible show wpAny _ _ (call (Value.builtin "round") [Value.float _ _]) _ _ _); (with_reducible refine' round_r ?mhf ?me ?mkh ?_); (case mhf => assumption); (case me => first | assumption | exact rfl); (case mkh => k_dflt rfl); intro t'w)
  k_with "mine:call builtin:max" => (k_here; first
    | ((with_reducible show wpAny _ _ (call (Value.builtin "max") [Value.ref _]) _ _ _); (with_reducible refine' max_l3 ?me ?mkh ?mk1 ?mk2 ?mk3 ?_); (case mk1 => k_asm); (case mk2 => k_asm); (case mk3 => k_dflt k_mem); (case me => assumption); (case mkh => k_dflt rfl); intro h'w tk'w t'w F'w N'w; (try k_sweep))
    | ((with_reducible show wpAny _ _ (call (Value.builtin "max") [Value.int _ _, Value.int _ _]) _ _ _); (with_reducible refine' max2_r ?me ?mkh ?mk1 ?mk2 ?_); (case mk1 => k_asm); (case mk2 => k_asm); (case me => first | assumption | exact rfl); (case mkh => k_dflt rfl); intro h'w tk'w t'w F'w N'w; (try k_sweep)))
  k_with "mine:call builtin:min" => (k_here; first
    | ((with_reducible show wpAny _ _ (call (Value.builtin "min") [Value.ref _]) _ _ _); (with_reducible refine' min_l3 ?me ?mkh ?mk1 ?mk2 ?mk3 ?_); (case mk1 => k_asm); (case mk2 => k_asm); (case mk3 => k_dflt k_mem); (case me => assumption); (case mkh => k_dflt rfl); intro h'w tk'w t'w F'w N'w; (try k_sweep))
    | ((with_reducible show wpAny _ _ (call (Value.builtin "min") [Value.int _ _, Value.int _ _]) _ _ _); (with_reducible refine' min2_r ?me ?mkh ?mk1 ?mk2 ?_); (case mk1 => k_asm); (case mk2 => k_asm); (case me => first | assumption | exact rfl); (case mkh => k_dflt rfl); intro h'w tk'w t'w F'w N'w; (try k_sweep)))
  k_with "mine:ite" => (k_here; first
    | (with_reducible refine ite_neg (by first | assumption | exact Bool.eq_false_iff.mp (by assumption) | (simp only [decide_true, decide_false, Bool.not_true, Bool.not_false, eq_self, Bool.false_eq_true, not_false_eq_true]; done) | ((try simp only [beq_iff_eq, bne_iff_ne, decide_eq_true_eq, ne_eq, Bool.not_eq_true', decide_eq_false_iff_not, Int.not_lt, Int.not_le]); omega)) ?_)
    | (with_reducible refine ite_pos (by first | assumption | (simp only [decide_true, decide_false, Bool.not_true, Bool.not_false, eq_self, Bool.false_eq_true, not_false_eq_true]; done) | ((try simp only [beq_iff_eq, bne_iff_ne, decide_eq_true_eq, ne_eq, Bool.not_eq_true', decide_eq_false_iff_not, Int.not_lt, Int.not_le]); omega)) ?_))
  k_with "mine:compareOp NotIn" => (k_here; (with_reducible show wpAny _ _ (compareOp CmpOp.NotIn (Value.int _ _) (Value.ref _)) _ _ _); (with_reducible refine' notIn_range ?mk1 ?mk2 ?mk3 ?_); (case mk1 => k_dflt assumption); (case mk2 => omega); (case mk3 => omega))
  k_with "mine:compareOp NotIn int ref" => (walk_at "compareOp NotIn")
  k_with "mine:binaryOp FloorDiv int int" => (k_here; (with_reducible refine' fdiv_r ?me ?mk2 ?mk3 ?_); (case me => first | assumption | exact rfl); (case mk2 => first | decide | omega); (case mk3 => first | decide | omega); intro t'w)
  k_with "mine:binaryOp Mod int int" => (k_here; (with_reducible refine' fmod_r ?me ?mk2 ?_); (case me => first | assumption | exact rfl); (case mk2 => first | decide | omega); intro t'w)
  k_with "mine enterC" => (refine' code_defPC ?mk1 ?mk2 ?mk3 ?mk4 ?mk5 ?mkA ?mkF ?mkK ?mk6 ?mk7 ?mk8 ?mk9 ?mkB ?mkD ?_ ?mc2 ?mc3 ?mc4; (case mkA => exact rfl); (case mkF => exact rfl); (case mkK => assumption); (case mk1 => k_asm); (case mk2 => k_asm); (case mk3 => k_asm); (case mk4 => k_asm); (case mk5 => k_asm); (case mk6 => k_is); (case mk7 => k_is); (case mk8 => ktr_room); (case mk9 => exact BindsTo.of_eq rfl); (case mkB => exact rfl); (case mkD => decide +kernel); (case mc2 => exact rfl); (case mc3 => exact rfl); (case mc4 => exact rfl); k_whole; intro g'w L'w h'w tk'w cells'w hH'w FG'w F'w N'w Y'w B'w X'w T'w l1'w; (try k_lt l1'w); k_cells Y'w; (try simp only [List.cons_append, List.nil_append] at N'w); (try dsimp only); (try k_lift B'w); (try k_fold); refine cut ?_; intro qq'w hq'w; refine letA ?_; intro A1'w)
  k_with "mine startC" => (dsimp only [Ctr]; k_fill; intros; refine wpAny_call ?_; k_dflt (k_extra "mine enterC"))
  k_with "mine:CTup" => (k_here; k_dflt (refine CTup.at (by rfl) (by k_asm) (by k_asm) (by k_mem) (by exact Nat.le_of_ble_eq_true rfl) ?_; intro g'w; lcg_lit))
  k_with "mine:CTupT" => (k_here; k_dflt (refine CTupT.at (by rfl) (by k_asm) (by k_asm) (by k_mem) (by exact Nat.le_of_ble_eq_true rfl) ?_; intro g'w; lct_lit))
  k_with "mine:pyIter ref" => (k_here; (with_reducible show wpAny _ _ (pyIter (Value.ref _)) (fun it s₂ => TurnsAt _ _ _ _ _ _ _ _ _ it s₂) _ _); ktu_seq)
  k_with "mine updF" => (first | (refine' UpdF.head ?ma; (case ma => k_extra "mine off")) | (refine' UpdF.tail ?ma ?mb; (case ma => k_ne); (case mb => k_extra "mine updF")))
  k_with "mine:storeName" => (k_here; k_dflt (first
    | (refine' storeX_L ?mF ?mN ?_ ?ma ?mb; (case ma => rfl); (case mb => rfl); (case mF => k_asm); (case mN => k_asm); k_whole; intro h'w F'w N'w; (try k_sweep))
    | (refine' storeX_C ?mF ?mN ?mc ?mU ?md ?_ ?ma ?mb; (case ma => rfl); (case mb => rfl); (case mF => k_asm); (case mN => k_asm); (case mc => rfl); (case mU => k_extra "mine updF"); (case md => k_asm); k_whole; intro h'w o'w F'w N'w d'w; (try dsimp only at N'w); (try k_sweep))))
  k_with "mine:CompSrc" => (k_here; k_dflt (refine LCg.CompSrc.ledger (by rfl) (by k_asm) (by k_asm) (by k_mem) (by exact Nat.le_of_ble_eq_true rfl) ?_; intro g'w; lcg_lit))
  k_with "mine enterC" => (refine' code_defPC2 ?mkb ?mk1 ?mk2 ?mk3 ?mk4 ?mk5 ?mkA ?mkF ?mkK ?mk6 ?mk7 ?mk8 ?mk9 ?mkB ?mkD ?mkE ?mkG ?_ ?mc2 ?mc3 ?mc4; (case mkb => assumption); (case mkA => exact rfl); (case mkF => exact rfl); (case mkK => assumption); (case mk1 => k_asm); (case mk2 => k_asm); (case mk3 => k_asm); (case mk4 => k_asm); (case mk5 => k_asm); (case mk6 => k_is); (case mk7 => k_is); (case mk8 => ktr_room); (case mk9 => exact BindsTo.of_eq rfl); (case mkB => exact rfl); (case mkD => decide +kernel); (case mkE => intro _; rfl); (case mkG => intro _; rfl); (case mc2 => exact rfl); (case mc3 => exact rfl); (case mc4 => exact rfl); k_whole; intro g'w L'w h'w tk'w cells'w hH'w FG'w F'w N'w Y'w B'w X'w T'w l1'w; (try k_lt l1'w); k_cells Y'w; (try simp only [List.cons_append, List.nil_append] at N'w); (try dsimp only); (try k_lift B'w); (try k_fold); refine cut ?_; intro qq'w hq'w; refine letA ?_; intro A1'w)
  trivial
theorem ksetP44b_30 : True := by
  k_with "mine:call ref" => (k_here; first
    | ((with_reducible show wpAny _ _ (call (Value.ref 76) _) _ _ _); k_dflt (refine' use_tup3 (hsv_c _ _ _ _ _ _ _ _ _ _ ?mpz) ?mk1 ?mk2 ?mk3 ?mk4 ?mk5 ?mk6 ?mk7 ?mk8 ?mk9 ?_; k_extra "mine use"; (case mpz => assumption)); intro D'w u1'w u2'w u3'w h'w tk'w o9'w F'w N'w o1'w hP'w; k_extra "mine offs")
    | ((with_reducible show wpAny _ _ (call (Value.ref 69) _) _ _ _); k_dflt (refine' use_tup3 (hls_c _ _ _ _ _ _ _ _ _ _ ?mpz) ?mk1 ?mk2 ?mk3 ?mk4 ?mk5 ?mk6 ?mk7 ?mk8 ?mk9 ?_; k_extra "mine use"; (case mpz => assumption)); intro D'w u1'w u2'w u3'w h'w tk'w o9'w F'w N'w o1'w hP'w; k_extra "mine offs")
    | ((with_reducible show wpAny _ _ (call (Value.ref 88) _) _ _ _); k_dflt (refine' use_bool (near2_c _ _ _ _ _ _ _ _ _ _ _ _ _ _ _ _ ?mpa ?mpb) ?mk1 ?mk2 ?mk3 ?mk4 ?mk5 ?mk6 ?mk7 ?mk8 ?mk9 ?_; k_extra "mine use"; (case mpa => assumption); (case mpb => assumption)); intro h'w tk'w F'w N'w))
  trivial

/-- three facts that omega need not see -/
structure Kept (p q r : Prop) : Prop where
  a : p
  b : q
  c : r
section
variable {prog : Program} {w : World} {A : Around} {E : Value → Shared → Prop} {s : Shared} {env : Env} {h₀ : Heap} {target : Expr} {body : List Stmt} {Q : Flow → Shared → Prop}
/-- a loop over values that appends to the list D -/
theorem ItemsRest.invM {ws : List (Addr × String)} {keep news : List (Addr × Obj)} {vs : List Value} {m₀ : Str → Option Value} {D : Addr} {vs₀ : List Value} {cap₀ : Nat} (xs : List Str) (base : List (Addr × Obj)) (R : Nat → List Value → Prop)
    (hD : (D, wsN vs₀ cap₀) ∈ news) (h0 : R 0 vs₀) (hk : SubL keep news) (hb : SubL base news)
    (turn : ∀ i v u ls cap h tk, vs[i]? = some v → R i ls → Fr h₀ env.locals h (dirt xs u m₀) → AllObj ws (fun its => News h₀ env.locals h (its ++ (D, wsN ls cap) :: (keep ++ base)) →
      wpAny (model prog w) A (assign target env v) (fun _ s₂ => wpAny (model prog w) A (execs body env) (UnrPostW h₀ env.locals { s with heap := h, toks := tk } its (fun m' n' => SubL keep n' ∧ ∃ n₁, SubL n₁ n' ∧ TurnL xs D (keep ++ base) (R (i + 1)) m₀ m' n₁) Q) E s₂) E { s with heap := h, toks := tk }))
    (done : ∀ u ls cap h tk, R vs.length ls → Fr h₀ env.locals h (dirt xs u m₀) → News h₀ env.locals h ((D, wsN ls cap) :: (keep ++ base)) → Q .next { s with heap := h, toks := tk }) :
    ItemsRest prog w A E h₀ env target body Q s ws keep (vs.map .val) m₀ news := by
  obtain ⟨u₀, hu₀⟩ := dirt_of (xs := xs) (m := m₀) (m' := m₀) fun _ _ => rfl
  refine ItemsRest.inv (fun i m' n' => TurnL xs D (keep ++ base) (R i) m₀ m' n') (xs := vs.map .val) ?_ ?_ _ 0 m₀ ((D, wsN vs₀ cap₀) :: (keep ++ base)) news rfl (Nat.zero_le _) ⟨u₀, vs₀, cap₀, h0, hu₀, rfl⟩ ⟨hD, SubL.app hk hb⟩
  · rintro i a m n v h tk hx ⟨u, ls, cap, hR, rfl, rfl⟩ hav F
    obtain ⟨v', hv', e⟩ : ∃ v', vs[i]? = some v' ∧ Itm.val v' = a := by
      rw [List.getElem?_map] at hx
      cases q : vs[i]? with
      | none => rw [q] at hx; cases hx
      | some z => rw [q] at hx; exact ⟨z, rfl, Option.some.inj hx⟩
    subst e
    have e : v = v' := hav
    subst e
    exact turn i v u ls cap h tk hv' hR F
  · rintro m n h tk ⟨u, ls, cap, hR, rfl, rfl⟩ F N
    rw [List.length_map] at hR
    exact done u ls cap h tk hR F N
theorem UnrEndW.introM {L : Addr} {its keep base all : List (Addr × Obj)} {s₁ : Shared} {h' : Heap} {tk : Nat} {m₀ m' : Str → Option Value} {xs : List Str} {D : Addr} {vs : List Value} {cap : Nat} {R : List Value → Prop} (F : Fr h₀ L h' m') (N : News h₀ L h' all)
    (hD : (D, wsN vs cap) ∈ all) (hR : R vs) (hI : SubL its all) (hk : SubL keep all) (hb : SubL base all) (off : OffW its ((D, wsN vs cap) :: (keep ++ base))) (hm : ∀ y, y ∉ xs → m' y = m₀ y) :
    UnrEndW h₀ L s₁ its (fun m' n' => SubL keep n' ∧ ∃ n₁, SubL n₁ n' ∧ TurnL xs D (keep ++ base) R m₀ m' n₁) { s₁ with heap := h', toks := tk } := by
  obtain ⟨u, e⟩ := dirt_of hm
  exact UnrEndW.intro F N ((D, wsN vs cap) :: (keep ++ base)) hI ⟨hD, SubL.app hk hb⟩ off ⟨SubL.of fun p hp => .tail _ (List.mem_append_left _ hp), _, SubL.of fun p hp => hp, u, vs, cap, hR, e, rfl⟩
end
theorem intVs_cons {vs : List Value} {k : Int} {r : List Int} (h : IntVs vs (k :: r)) : ∃ t vs', vs = .int k t :: vs' ∧ IntVs vs' r := by
  obtain ⟨ps, rfl, e⟩ := h
  cases ps with
  | nil => cases e
  | cons p ps =>
    have e1 := (List.cons.inj e).1
    subst e1
    exact ⟨p.2, _, rfl, ps, rfl, (List.cons.inj e).2⟩
theorem intVs_three {vs : List Value} {a b c : Int} (h : IntVs vs [a, b, c]) : ∃ ta tb tc, vs = [.int a ta, .int b tb, .int c tc] := by
  obtain ⟨ta, v1, rfl, h1⟩ := intVs_cons h
  obtain ⟨tb, v2, rfl, h2⟩ := intVs_cons h1
  obtain ⟨tc, v3, rfl, h3⟩ := intVs_cons h2
  have e : v3 = [] := List.length_eq_zero_iff.mp h3.len
  exact ⟨ta, tb, tc, by rw [e]⟩
noncomputable def MadeYes (F : Tok → Prop) : Prop := ∀ t, F t
theorem hue_item {a b c hi lo step : Int} {ta tb tc : Tok}
    (M : Kept (hi - min (hi - lo) (max 0 (min ((step - 0).fmod (6 * (hi - lo))) ((0 - step).fmod (6 * (hi - lo))) - (hi - lo))) = a)
      (hi - min (hi - lo) (max 0 (min ((step - 2 * (hi - lo)).fmod (6 * (hi - lo))) ((2 * (hi - lo) - step).fmod (6 * (hi - lo))) - (hi - lo))) = b)
      (hi - min (hi - lo) (max 0 (min ((step - 4 * (hi - lo)).fmod (6 * (hi - lo))) ((4 * (hi - lo) - step).fmod (6 * (hi - lo))) - (hi - lo))) = c))
    {i : Nat} {v : Value} {ls : List Value} (hv : [Value.int 0 ta, .int (2 * (hi - lo)) tb, .int (4 * (hi - lo)) tc][i]? = some v) (hR : IntVs ls (List.take i [a, b, c])) :
    ∃ k t, v = .int k t ∧ ls.length ≤ 1000 ∧ MadeYes fun t => IntVs (ls ++ [.int (hi - min (hi - lo) (max 0 (min ((step - k).fmod (6 * (hi - lo))) ((k - step).fmod (6 * (hi - lo))) - (hi - lo)))) t]) (List.take (i + 1) [a, b, c]) := by
  have hl : ls.length ≤ 1000 := by rw [hR.len]; exact Nat.le_trans (List.length_take_le' ..) (show 3 ≤ 1000 by decide)
  match i, hv, hR with
  | 0, hv, hR => cases hv; exact ⟨0, ta, rfl, hl, fun t => by rw [M.a]; exact hR.snoc⟩
  | 1, hv, hR => cases hv; exact ⟨_, tb, rfl, hl, fun t => by rw [M.b]; exact hR.snoc⟩
  | 2, hv, hR => cases hv; exact ⟨_, tc, rfl, hl, fun t => by rw [M.c]; exact hR.snoc⟩
  | n + 3, hv, hR => cases hv
theorem ksetP44b_31 : True := by
  k_with "mine:call builtin:list.append" => (k_here; (refine' app_ws ?mF ?mN ?mU ?mz ?_; (case mF => k_asm); (case mN => k_asm); (case mU => k_extra "mine updF"); (case mz => with_reducible assumption)); intro h'w F'w N'w)
  k_with "mine made" => ((rename MadeYes _ => hM'w); exact hM'w _)
  k_with "mine:UnrEndW" => (refine' UnrEndW.introM ?mF ?mN ?mhD ?mhR ?mhI ?mhk ?mhb ?moff ?mhm; (case mF => k_asm); (case mN => k_asm); (case mhD => k_mem); (case mhI => k_subL); (case mhk => k_subL); (case mhb => k_subL); (case moff => (simp only [List.cons_append, List.nil_append]; ktu_offL)); (case mhR => k_extra "mine made"); (case mhm => (intro y hy; (simp only [List.mem_cons, List.not_mem_nil, or_false, not_or] at hy); first | (k_extra "mine same"; done) | rfl | (simp +zetaDelta [hy]; done))))
  trivial

theorem hues_c (w mean mg mb) (l1 l2 : Addr) (n1 n2 : Nat) (a b c k hi lo sm step : Int) (r g bl q1 q2 f1 f2 f3 : UInt64) (t1 t2 t3 t4 : Tok)
    (ha : 0 ≤ a ∧ a ≤ 16) (hb : 0 ≤ b ∧ b ≤ 16) (hc : 0 ≤ c ∧ c ≤ 16) (hlo0 : 0 ≤ lo) (hlo : lo < hi) (hhi : hi ≤ 16)
    (er : divI a 16 = r) (eg : divI b 16 = g) (eb : divI c 16 = bl) (ehi : imax3 a b c = hi) (elo : imin3 a b c = lo) (e1 : divI hi 16 = q1) (e2 : divI (hi + lo) 32 = q2)
    (z1 : hsvZ r g bl = true) (z2 : hlsZ r g bl = true) (v1 : (Float64.cmp (fmax3 r g bl) q1 != some Ordering.eq) = false) (v2 : (Float64.cmp (hlsL r g bl) q2 != some Ordering.eq) = false)
    (esm : min (hi + lo) (32 - hi - lo) = sm) (hsm : 0 ≤ sm ∧ sm ≤ 32) (es : Float64.mul (hsvS r g bl) (Float64.ofInt hi) = f1) (ef : Float64.mul (hlsS r g bl) (Float64.ofInt sm) = f2) (n1' : nearB f1 (hi - lo) = true) (n2' : nearB f2 (hi - lo) = true)
    (eh : Float64.mul (Float64.mul (hueT r g bl) (Float64.ofInt 6)) (Float64.ofInt (hi - lo)) = f3) (fh : Float64.isFinite f3 = true) (est : toInt Float64.nearestOf f3 = step) (n3' : nearB f3 step = true)
    (hst : 0 ≤ step) (hst2 : step < 6 * (hi - lo)) (hk : step.fdiv (hi - lo) = k)
    (m1 : hi - min (hi - lo) (max 0 (min ((step - 0).fmod (6 * (hi - lo))) ((0 - step).fmod (6 * (hi - lo))) - (hi - lo))) = a)
    (m2 : hi - min (hi - lo) (max 0 (min ((step - 2 * (hi - lo)).fmod (6 * (hi - lo))) ((2 * (hi - lo) - step).fmod (6 * (hi - lo))) - (hi - lo))) = b)
    (m3 : hi - min (hi - lo) (max 0 (min ((step - 4 * (hi - lo)).fmod (6 * (hi - lo))) ((4 * (hi - lo) - step).fmod (6 * (hi - lo))) - (hi - lo))) = c) :
    Ctr w mean mg mb 100 [.ref l1, .ref l2] [(l1, listOf #[.int a t1, .int b t2, .int c t3] n1), (l2, listOf #[.int k t4] n2)] 3 (PBool true) := by
  have hB : Bnd [(Str.ofString "sixths", .ref l2), (Str.ofString "now", .ref l1)] := trivial
  have M := Kept.mk m1 m2 m3
  clear m1 m2 m3
  refine (show (let o1 := listOf #[.int a t1, .int b t2, .int c t3] n1; let o2 := listOf #[.int k t4] n2; Ctr w mean mg mb 100 [.ref l1, .ref l2] [(l1, o1), (l2, o2)] 3 (PBool true)) from ?_)
  intro o1 o2
  k_extra "mine start"
  iterate 450 (first | ((with_reducible show ItemsRest _ _ _ _ _ _ _ _ _ _ _ _ _ _ _); skip) | k_extra "mine step" | skip)
  refine' ItemsRest.invM [Str.ofString "corner", Str.ofString "far"] [(l1, o1), (l2, o2)] (fun i ls => IntVs ls (List.take i [a, b, c])) ?hD ?h0 ?hk ?hb ?turn ?done
  case hD => k_mem
  case h0 => exact IntVs.nil
  case hk => k_subL
  case hb => k_subL
  case turn =>
    intro i v u ls cap h tk hv hR F
    refine named ?_
    intro Gt kt
    obtain ⟨k5, t5, rfl, hl, hS⟩ := hue_item M hv hR
    clear hv hR
    refine kt ?_
    clear kt
    simp only [dirt] at F
    ktu_objs
    rename News _ _ _ _ => N
    (try dsimp only [envOf] at F N)
    (try k_fold)
    refine cut2 ?_
    intro q3 hq3
    k_steps
  case done =>
    intro u ls cap h tk hR F N
    refine named ?_
    intro Gt kt
    obtain ⟨ta, tb, tc, rfl⟩ := intVs_three hR
    refine kt ?_
    clear kt
    simp only [dirt] at F
    (try dsimp only [envOf] at F N)
    (try dsimp only)
    k_steps
    k_extra "mine ret"
    unfold PBool
    simp
end
section
open PySem.Float64
theorem pair_at {hi lo : Nat} (h1 : lo < hi) (h2 : hi ≤ 12) : pairB hi lo = true := List.all_eq_true.mp (List.all_eq_true.mp pair_all hi (List.mem_range.mpr (by omega))) lo (List.mem_range.mpr (by omega))
theorem imax_at {a b c hi : Int} (e : imax3 a b c = hi) : a ≤ hi ∧ b ≤ hi ∧ c ≤ hi ∧ (hi = a ∨ hi = b ∨ hi = c) := by
  subst e
  have h1 : ∀ x y : Int, x ≤ max x y ∧ y ≤ max x y ∧ (max x y = x ∨ max x y = y) := fun x y => ⟨Int.le_max_left x y, Int.le_max_right x y, by rcases Int.le_total x y with q | q; exact .inr (Int.max_eq_right q); exact .inl (Int.max_eq_left q)⟩
  obtain ⟨p1, p2, p3⟩ := h1 a b
  obtain ⟨q1, q2, q3⟩ := h1 (max a b) c
  unfold imax3
  refine ⟨Int.le_trans p1 q1, Int.le_trans p2 q1, q2, ?_⟩
  rcases q3 with q3 | q3
  · rcases p3 with p3 | p3
    · exact .inl (q3.trans p3)
    · exact .inr (.inl (q3.trans p3))
  · exact .inr (.inr q3)
theorem imin_at {a b c lo : Int} (e : imin3 a b c = lo) : lo ≤ a ∧ lo ≤ b ∧ lo ≤ c ∧ (lo = a ∨ lo = b ∨ lo = c) := by
  subst e
  have h1 : ∀ x y : Int, min x y ≤ x ∧ min x y ≤ y ∧ (min x y = x ∨ min x y = y) := fun x y => ⟨Int.min_le_left x y, Int.min_le_right x y, by rcases Int.le_total x y with q | q; exact .inl (Int.min_eq_left q); exact .inr (Int.min_eq_right q)⟩
  obtain ⟨p1, p2, p3⟩ := h1 a b
  obtain ⟨q1, q2, q3⟩ := h1 (min a b) c
  unfold imin3
  refine ⟨Int.le_trans q1 p1, Int.le_trans q1 p2, q2, ?_⟩
  rcases q3 with q3 | q3
  · rcases p3 with p3 | p3
    · exact .inl (q3.trans p3)
    · exact .inr (.inl (q3.trans p3))
  · exact .inr (.inr q3)
section
variable {a b c hi lo : Int} (a0 : 0 ≤ a) (a1 : a ≤ 12) (b0 : 0 ≤ b) (b1 : b ≤ 12) (c0 : 0 ≤ c) (c1 : c ≤ 12) (ehi : imax3 a b c = hi) (elo : imin3 a b c = lo) (hne : lo < hi)
include a0 a1 b0 b1 c0 c1 ehi elo hne
theorem grey_not : greyF (divI a 16) (divI b 16) (divI c 16) = false := by
  have hM := imax_at ehi
  have hm := imin_at elo
  have hb : 0 ≤ lo ∧ hi ≤ 12 := ⟨by rcases hm.2.2.2 with h | h | h <;> rw [h] <;> assumption, by rcases hM.2.2.2 with h | h | h <;> rw [h] <;> assumption⟩
  unfold greyF
  rw [six_min a0 (by omega) b0 (by omega) c0 (by omega), six_max a0 (by omega) b0 (by omega) c0 (by omega), ehi, elo, six_eq (by omega) (by omega) (by omega) (by omega), decide_eq_false (by omega)]
theorem hue_eq : hueT (divI a 16) (divI b 16) (divI c 16) = hueD (hi - a) (hi - b) (hi - c) (hi - lo) := by
  have hM := imax_at ehi
  have hm := imin_at elo
  have hb : 0 ≤ lo ∧ hi ≤ 12 ∧ a ≤ hi ∧ b ≤ hi ∧ c ≤ hi := ⟨by rcases hm.2.2.2 with h | h | h <;> rw [h] <;> assumption, by rcases hM.2.2.2 with h | h | h <;> rw [h] <;> assumption, hM.1, hM.2.1, hM.2.2.1⟩
  clear hM hm
  unfold hueT
  rw [grey_not a0 a1 b0 b1 c0 c1 ehi elo hne, if_neg Bool.false_ne_true, six_min a0 (by omega) b0 (by omega) c0 (by omega), six_max a0 (by omega) b0 (by omega) c0 (by omega), ehi, elo]
  unfold hueF hueD
  rw [six_eq a0 (by omega) (by omega) (by omega), six_eq b0 (by omega) (by omega) (by omega)]
  rw [six_sub a0 (by omega) (by omega), six_sub b0 (by omega) (by omega), six_sub c0 (by omega) (by omega), six_sub (h := hi) (a := lo) (by omega) (by omega) (by omega)]
  by_cases h1 : a = hi
  · rw [decide_eq_true h1, if_pos rfl, if_pos (show hi - a = 0 by omega)]
  · rw [decide_eq_false h1, if_neg Bool.false_ne_true, if_neg (show ¬ hi - a = 0 by omega)]
    by_cases h2 : b = hi
    · rw [decide_eq_true h2, if_pos rfl, if_pos (show hi - b = 0 by omega)]
    · rw [decide_eq_false h2, if_neg Bool.false_ne_true, if_neg (show ¬ hi - b = 0 by omega)]
theorem pair_facts : hsvZ (divI a 16) (divI b 16) (divI c 16) = true ∧ hlsZ (divI a 16) (divI b 16) (divI c 16) = true ∧ (Float64.cmp (fmax3 (divI a 16) (divI b 16) (divI c 16)) (divI hi 16) != some Ordering.eq) = false ∧
    (Float64.cmp (hlsL (divI a 16) (divI b 16) (divI c 16)) (divI (hi + lo) 32) != some Ordering.eq) = false ∧ nearB (Float64.mul (hsvS (divI a 16) (divI b 16) (divI c 16)) (Float64.ofInt hi)) (hi - lo) = true ∧
    nearB (Float64.mul (hlsS (divI a 16) (divI b 16) (divI c 16)) (Float64.ofInt (min (hi + lo) (32 - hi - lo)))) (hi - lo) = true := by
  have hM := imax_at ehi
  have hm := imin_at elo
  have hb : 0 ≤ lo ∧ hi ≤ 12 := ⟨by rcases hm.2.2.2 with h | h | h <;> rw [h] <;> assumption, by rcases hM.2.2.2 with h | h | h <;> rw [h] <;> assumption⟩
  have hg := grey_not a0 a1 b0 b1 c0 c1 ehi elo hne
  have emin := six_min a0 (show a ≤ 16 by omega) b0 (show b ≤ 16 by omega) c0 (show c ≤ 16 by omega)
  have emax := six_max a0 (show a ≤ 16 by omega) b0 (show b ≤ 16 by omega) c0 (show c ≤ 16 by omega)
  rw [elo] at emin
  rw [ehi] at emax
  have hv := six_eq (show 0 ≤ hi by omega) (show hi ≤ 16 by omega) (show 0 ≤ hi by omega) (show hi ≤ 16 by omega)
  rw [decide_eq_true rfl] at hv
  have es := six_sub (h := hi) (a := lo) (by omega) (by omega) (by omega)
  obtain ⟨n, rfl⟩ : ∃ n : Nat, hi = n := ⟨hi.toNat, by omega⟩
  obtain ⟨k, rfl⟩ : ∃ k : Nat, lo = k := ⟨lo.toNat, by omega⟩
  have hp := pair_at (hi := n) (lo := k) (by omega) (by omega)
  unfold pairB at hp
  rw [decide_eq_false (show ¬ n ≤ k by omega), Bool.false_or] at hp
  simp only [Bool.and_eq_true] at hp
  obtain ⟨⟨⟨⟨p1, p2⟩, p3⟩, p4⟩, p5, p6⟩ := hp
  unfold hsvZ hlsZ hsvS hlsS hlsD lowF hlsL
  rw [hg, emax, emin, es]
  simp only [Bool.false_or, Bool.false_eq_true, if_false]
  refine ⟨by rw [p1, p2]; rfl, by rw [p5, p2]; rfl, ?_, ?_, p4, p6⟩
  · unfold bne; rw [hv]; rfl
  · rw [Bool.not_eq_true'] at p3; exact p3
end
noncomputable def greyB (n : Nat) : Bool :=
  let r := divI (n : Int) 16
  hsvZ r r r && hlsZ r r r && !(Float64.cmp (fmax3 r r r) (divI (n : Int) 16) != some Ordering.eq) && !(Float64.cmp (hlsL r r r) (divI ((n : Int) + n) 32) != some Ordering.eq) && greyF r r r
theorem grey_all : (List.range 13).all greyB = true := by decide +kernel
theorem intVs_one {vs : List Value} {k : Int} (h : IntVs vs [k]) : ∃ t, vs = [.int k t] := by
  obtain ⟨ps, rfl, e⟩ := h
  match ps, e with
  | [(p1, p2)], e =>
    have e1 : p1 = k := (List.cons.inj e).1
    subst e1
    exact ⟨p2, rfl⟩
theorem intVs_nil {vs : List Value} (h : IntVs vs []) : vs = [] := by
  obtain ⟨ps, rfl, e⟩ := h
  rw [List.map_eq_nil_iff] at e
  subst e
  rfl
theorem max_sub (h x y : Int) : max (h - x) (h - y) = h - min x y := by
  rcases Int.le_total x y with q | q
  · rw [Int.min_eq_left q, Int.max_eq_left (Int.sub_le_sub_left q h)]
  · rw [Int.min_eq_right q, Int.max_eq_right (Int.sub_le_sub_left q h)]
theorem min_sub (h x y : Int) : min (h - x) (h - y) = h - max x y := by
  rcases Int.le_total x y with q | q
  · rw [Int.max_eq_right q, Int.min_eq_right (Int.sub_le_sub_left q h)]
  · rw [Int.max_eq_left q, Int.min_eq_left (Int.sub_le_sub_left q h)]
theorem imax_sub {a b c hi : Int} (e : imin3 a b c = hi) (h : Int) : imax3 (h - a) (h - b) (h - c) = h - hi := by
  subst e
  unfold imin3 imax3
  rw [max_sub, max_sub]
theorem imin_sub {a b c hi : Int} (e : imax3 a b c = hi) : imin3 (hi - a) (hi - b) (hi - c) = 0 := by
  subst e
  unfold imin3
  rw [min_sub, min_sub]
  exact Int.sub_self _
theorem shift_at {a : Nat} {hi : Int} (h1 : (a : Int) ≤ hi) (h2 : hi ≤ 12) : 12 - (hi - a).toNat = a + (12 - hi).toNat := by
  obtain ⟨n, rfl⟩ := Int.eq_ofNat_of_zero_le (Int.le_trans (Int.natCast_nonneg a) h1)
  have h1 := Int.ofNat_le.mp h1
  have h2 : n ≤ 12 := Int.ofNat_le.mp h2
  rw [Int.toNat_sub, show (12 - (n : Int)).toNat = 12 - n from Int.toNat_sub 12 n, Nat.sub_sub_right _ h1, Nat.add_comm 12 a, Nat.add_sub_assoc h2]
theorem mid_at {lo hi : Int} (h0 : 0 ≤ lo) (h1 : lo < hi) (h2 : hi ≤ 12) : 0 ≤ min (hi + lo) (32 - hi - lo) ∧ min (hi + lo) (32 - hi - lo) ≤ 32 := by omega
theorem sub_12 {x hi : Int} (h0 : 0 ≤ x) (h2 : hi ≤ 12) : hi - x ≤ 12 := by omega
theorem max_same (x : Int) : imax3 x x x = x := by unfold imax3; rw [Int.max_self, Int.max_self]
theorem min_same (x : Int) : imin3 x x x = x := by unfold imin3; rw [Int.min_self, Int.min_self]
theorem hues_w (w mean mg mb) (l1 l2 : Addr) (n1 cap : Nat) (a b c : Nat) (ha : a ≤ 12) (hb : b ≤ 12) (hc : c ≤ 12) (vs : List Value) (hvs : IntVs vs (sixL a b c 6)) (t1 t2 t3 : Tok) :
    Ctr w mean mg mb 100 [.ref l1, .ref l2] [(l1, listOf #[.int a t1, .int b t2, .int c t3] n1), (l2, wsN vs cap)] 3 (PBool true) := by
  by_cases he : a = b ∧ b = c
  · obtain ⟨rfl, rfl⟩ := he
    rw [sixL_same] at hvs
    obtain rfl := intVs_nil hvs
    have h := List.all_eq_true.mp grey_all a (List.mem_range.mpr (Nat.lt_succ_of_le ha))
    unfold greyB at h
    simp only [Bool.and_eq_true, Bool.not_eq_true'] at h
    obtain ⟨⟨⟨⟨g1, g2⟩, g3⟩, g4⟩, g5⟩ := h
    refine hues0_c w mean mg mb l1 l2 n1 cap a a a a a _ _ _ _ _ t1 t2 t3 ⟨Int.natCast_nonneg _, ar_cle ha (by decide)⟩ ⟨Int.natCast_nonneg _, ar_cle ha (by decide)⟩ ⟨Int.natCast_nonneg _, ar_cle ha (by decide)⟩ (Int.natCast_nonneg _) rfl (ar_cle ha (by decide)) rfl rfl rfl (max_same _) (min_same _) rfl rfl g1 g2 g3 g4 g5 ?_ ?_ ?_
    · unfold hueT; rw [g5, if_pos rfl]
    · unfold hsvS; rw [g5, if_pos rfl]
    · unfold hlsS; rw [g5, if_pos rfl]
  · obtain ⟨hi, ehi⟩ : ∃ hi, imax3 (a : Int) b c = hi := ⟨_, rfl⟩
    obtain ⟨lo, elo⟩ : ∃ lo, imin3 (a : Int) b c = lo := ⟨_, rfl⟩
    have hr : 0 ≤ lo ∧ lo < hi ∧ hi ≤ 12 ∧ (a : Int) ≤ hi ∧ (b : Int) ≤ hi ∧ (c : Int) ≤ hi ∧ lo ≤ a ∧ lo ≤ b ∧ lo ≤ c := by
      obtain ⟨M1, M2, M3, M4⟩ := imax_at ehi
      obtain ⟨N1, N2, N3, N4⟩ := imin_at elo
      clear ehi elo
      have z1 : 0 ≤ lo := by rcases N4 with h | h | h <;> rw [h] <;> exact Int.natCast_nonneg _
      have z2 : hi ≤ 12 := by rcases M4 with h | h | h <;> rw [h] <;> omega
      refine ⟨z1, ?_, z2, M1, M2, M3, N1, N2, N3⟩
      clear z1 z2 M4 N4
      omega
    obtain ⟨r1, r2, r3, r4, r5, r6, r7, r8, r9⟩ := hr
    have pa := Int.natCast_nonneg a
    have pb := Int.natCast_nonneg b
    have pc := Int.natCast_nonneg c
    have qa : (a : Int) ≤ 12 := ar_cle ha (by decide)
    have qb : (b : Int) ≤ 12 := ar_cle hb (by decide)
    have qc : (c : Int) ≤ 12 := ar_cle hc (by decide)
    have le16 : ∀ {x : Int}, x ≤ 12 → x ≤ 16 := fun h => Int.le_trans h (by decide)
    obtain ⟨z1, z2, v1, v2, s1, s2⟩ := pair_facts (a := a) (b := b) (c := c) pa qa pb qb pc qc ehi elo r2
    have eh := hue_eq (a := a) (b := b) (c := c) pa qa pb qb pc qc ehi elo r2
    obtain ⟨h1, h2, h3, h4, h5, h6, h7⟩ := hue_at (da := hi - a) (db := hi - b) (dc := hi - c) (Int.sub_nonneg_of_le r4) (sub_12 pa r3) (Int.sub_nonneg_of_le r5) (sub_12 pb r3) (Int.sub_nonneg_of_le r6) (sub_12 pc r3) (imin_sub ehi) (imax_sub elo hi) (by omega)
    have hs : sixL (12 - (hi - a).toNat) (12 - (hi - b).toNat) (12 - (hi - c).toNat) 6 = sixL a b c 6 := sixL_shift (s := (12 - hi).toNat) (shift_at r4 r3) (shift_at r5 r3) (shift_at r6 r3) 6
    rw [hs] at h7
    rw [h7] at hvs
    obtain ⟨t4, rfl⟩ := intVs_one hvs
    rw [← eh] at h1 h2
    refine hues_c w mean mg mb l1 l2 n1 cap a b c _ hi lo _ (stepD (hi - a) (hi - b) (hi - c) (hi - lo)) _ _ _ _ _ _ _ _ t1 t2 t3 t4 ⟨pa, le16 qa⟩ ⟨pb, le16 qb⟩ ⟨pc, le16 qc⟩ r1 r2 (le16 r3) rfl rfl rfl ehi elo rfl rfl z1 z2 v1 v2 rfl (mid_at r1 r2 r3) rfl rfl s1 s2 rfl h1 ?_ h2 h3.1 h3.2 rfl ?_ ?_ ?_
    · unfold stepD; rw [← eh]
    · unfold wheel at h4; omega
    · unfold wheel at h5; omega
    · unfold wheel at h6; omega
end
section
/-- the text with each dot at a line's head doubled; b: at a head -/
noncomputable def dblL : Bool → List Nat → List Nat
  | _, [] => []
  | b, c :: r => if b = true ∧ c = 46 then 46 :: 46 :: dblL false r else c :: dblL (c == 10) r
/-- the text with each line's end a return and a feed -/
noncomputable def endL : List Nat → List Nat
  | [] => []
  | c :: r => if c = 13 then 13 :: 10 :: endL (if r.head? = some 10 then r.tail else r) else if c = 10 then 13 :: 10 :: endL r else c :: endL r
termination_by l => l.length
decreasing_by
  all_goals simp_wf
  · split
    · rw [List.length_tail]; omega
    · omega
theorem getD_mid (pre : List Nat) (c : Nat) (r : List Nat) : (pre ++ c :: r).toArray.getD pre.length 0 = c := by
  simp [Array.getD]
theorem getD_prev (pre : List Nat) (x : Nat) (r : List Nat) : ((pre ++ [x]) ++ r).toArray.getD ((pre ++ [x]).length - 1) 0 = x := by
  simp [Array.getD]
theorem getD_next (pre : List Nat) (c d : Nat) (r : List Nat) : (pre ++ c :: d :: r).toArray.getD (pre.length + 1) 0 = d := by
  simp [Array.getD]
/-- at a line's head -/
noncomputable def bol (pre : List Nat) : Bool := pre.getLast? == none || pre.getLast? == some 10
theorem dotAt_mid (pre : List Nat) (c : Nat) (r : List Nat) : dotAt (pre ++ c :: r).toArray pre.length = (bol pre && c == 46) := by
  unfold dotAt bol
  rw [getD_mid]
  have hs : decide (pre.length < (pre ++ c :: r).toArray.size) = true := by simp
  rw [hs, Bool.and_true]
  congr 1
  rcases List.eq_nil_or_concat pre with rfl | ⟨l, x, rfl⟩
  · rfl
  · rw [List.concat_eq_append, getD_prev]
    simp
theorem dbl_go : ∀ (rest pre : List Nat) (fuel : Nat), rest.length ≤ fuel → subL (pre ++ rest).toArray (len1 (pre ++ rest).toArray) [46, 46] fuel pre.length = dblL (bol pre) rest
  | [], pre, 0, _ => rfl
  | [], pre, fuel + 1, _ => by
    unfold subL
    rw [if_neg (by simp)]
    rfl
  | c :: r, pre, 0, h => by simp at h
  | c :: r, pre, fuel + 1, h => by
    have h' : r.length ≤ fuel := by simpa using h
    unfold subL dblL
    rw [if_pos (by simp)]
    have ih := dbl_go r (pre ++ [c]) fuel h'
    rw [List.append_assoc, List.singleton_append, List.length_append] at ih
    unfold len1
    rw [dotAt_mid]
    by_cases hb : bol pre = true ∧ c = 46
    · obtain ⟨hb, hc⟩ := hb
      subst hc
      rw [hb]
      have e : (true && (46 == 46 : Bool)) = true := rfl
      rw [e, if_pos rfl, if_pos (show (0 : Nat) < 1 by decide), if_pos (And.intro rfl rfl)]
      show 46 :: 46 :: subL _ _ _ fuel (pre.length + 1) = _
      have hx : bol (pre ++ [46]) = false := by simp [bol]
      rw [hx] at ih
      rw [← ih]
      rfl
    · rw [if_neg hb]
      have e : (bol pre && c == 46) = false := by
        cases h1 : bol pre
        · rfl
        · have : ¬ c = 46 := fun k => hb ⟨h1, k⟩
          simp [this]
      rw [e, if_neg Bool.false_ne_true, if_neg (Nat.lt_irrefl 0), getD_mid]
      have hx : bol (pre ++ [c]) = (c == 10) := by simp [bol]
      rw [hx] at ih
      rw [← ih]
      rfl
theorem dotted_is (l : List Nat) : dotted ⟨l.toArray⟩ = ⟨(dblL true l).toArray⟩ := by
  unfold dotted subF
  have := dbl_go l [] (l.toArray.size - 0) (by simp)
  rw [List.nil_append] at this
  rw [show ([] : List Nat).length = 0 from rfl] at this
  rw [this]
  rfl
theorem len2_mid (pre : List Nat) (c : Nat) (r : List Nat) : len2 (pre ++ c :: r).toArray pre.length = if c = 13 then (if r.head? = some 10 then 2 else 1) else if c = 10 then 1 else 0 := by
  unfold len2
  rw [if_pos (by simp), getD_mid]
  by_cases hc : c = 13
  · rw [if_pos hc, if_pos hc]
    cases r with
    | nil => rw [if_neg (by simp), if_neg (by simp)]
    | cons d r =>
      rw [getD_next]
      by_cases hd : d = 10
      · rw [if_pos ⟨by simp, hd⟩, if_pos (by simp [hd])]
      · rw [if_neg (fun k => hd k.2), if_neg (by simp [hd])]
  · rw [if_neg hc, if_neg hc]
theorem end_go : ∀ (n : Nat) (rest pre : List Nat) (fuel : Nat), rest.length ≤ n → rest.length ≤ fuel → subL (pre ++ rest).toArray (len2 (pre ++ rest).toArray) [13, 10] fuel pre.length = endL rest := by
  intro n
  induction n with
  | zero =>
    intro rest pre fuel hn hf
    have e : rest = [] := List.length_eq_zero_iff.mp (by omega)
    subst e
    cases fuel with
    | zero => unfold endL; rfl
    | succ fuel => unfold subL endL; rw [if_neg (by simp)]
  | succ n ih =>
    intro rest pre fuel hn hf
    cases rest with
    | nil =>
      cases fuel with
      | zero => unfold endL; rfl
      | succ fuel => unfold subL endL; rw [if_neg (by simp)]
    | cons c r =>
      cases fuel with
      | zero => simp at hf
      | succ fuel =>
        have hn' : r.length ≤ n := by simpa using hn
        have hf' : r.length ≤ fuel := by simpa using hf
        unfold subL endL
        rw [if_pos (by simp), len2_mid]
        have i1 := ih r (pre ++ [c]) fuel hn' hf'
        rw [List.append_assoc, List.singleton_append, List.length_append] at i1
        by_cases hc : c = 13
        · rw [if_pos hc, if_pos hc]
          by_cases hd : r.head? = some 10
          · rw [if_pos hd, if_pos hd, if_pos (by decide)]
            cases r with
            | nil => simp at hd
            | cons d r =>
              have i2 := ih r (pre ++ [c, d]) fuel (by simp at hn'; omega) (by simp at hf'; omega)
              rw [List.append_assoc, List.length_append] at i2
              show 13 :: 10 :: subL _ _ _ fuel (pre.length + 2) = _
              rw [List.tail_cons, ← i2]
              rfl
          · rw [if_neg hd, if_neg hd, if_pos (by decide)]
            show 13 :: 10 :: subL _ _ _ fuel (pre.length + 1) = _
            rw [← i1]
            rfl
        · rw [if_neg hc, if_neg hc]
          by_cases hd : c = 10
          · rw [if_pos hd, if_pos hd, if_pos (by decide)]
            show 13 :: 10 :: subL _ _ _ fuel (pre.length + 1) = _
            rw [← i1]
            rfl
          · rw [if_neg hd, if_neg hd, if_neg (Nat.lt_irrefl 0), getD_mid, ← i1]
            rfl
theorem crlfed_is (l : List Nat) : crlfed ⟨l.toArray⟩ = ⟨(endL l).toArray⟩ := by
  unfold crlfed subF
  have := end_go _ l [] (l.toArray.size - 0) (Nat.le_refl _) (by simp)
  rw [List.nil_append] at this
  rw [show ([] : List Nat).length = 0 from rfl] at this
  rw [this]
/-- a row of n dots -/
noncomputable def rowL (n : Nat) : List Nat := List.replicate n 46 ++ [97]
noncomputable def textL (a b c : Nat) : List Nat := [97, 13, 10] ++ (rowL a ++ [13, 10]) ++ (rowL b ++ [13, 10]) ++ (rowL c ++ [13, 10])
/-- the end of the row j -/
noncomputable def eolL (i : Nat) : List Nat := if i % 3 = 0 then [10] else if i % 3 = 1 then [13] else [13, 10]
noncomputable def mailL (k p q r : Nat) : List Nat := [97] ++ eolL k ++ (rowL p ++ eolL (k + 1)) ++ (rowL q ++ eolL (k + 2)) ++ (rowL r ++ eolL (k + 3))
theorem endL_dots (r : List Nat) : ∀ n, endL (List.replicate n 46 ++ r) = List.replicate n 46 ++ endL r
  | 0 => rfl
  | n + 1 => by
    rw [List.replicate_succ, List.cons_append]
    conv => lhs; unfold endL
    rw [if_neg (by decide), if_neg (by decide), endL_dots r n]
    rfl
theorem endL_a (r : List Nat) : endL (97 :: r) = 97 :: endL r := by
  conv => lhs; unfold endL
  rw [if_neg (by decide), if_neg (by decide)]
theorem endL_row (n : Nat) (r : List Nat) : endL (rowL n ++ r) = rowL n ++ endL r := by
  unfold rowL
  rw [List.append_assoc, endL_dots, List.singleton_append, endL_a, List.append_assoc]
  rfl
theorem endL_eol (i : Nat) (r : List Nat) (h : r.head? ≠ some 10) : endL (eolL i ++ r) = 13 :: 10 :: endL r := by
  unfold eolL
  split
  · conv => lhs; unfold endL
    rfl
  · split
    · show endL (13 :: r) = _
      conv => lhs; unfold endL
      rw [if_pos rfl, if_neg h]
    · show endL (13 :: 10 :: r) = _
      conv => lhs; unfold endL
      rfl
theorem head_row (n : Nat) (r : List Nat) : (rowL n ++ r).head? ≠ some 10 := by
  cases n with
  | zero => simp [rowL]
  | succ n => simp [rowL, List.replicate_succ]
theorem endL_nil : endL [] = [] := by unfold endL; rfl
theorem endL_mail (k p q r : Nat) : endL (mailL k p q r) = textL p q r := by
  unfold mailL textL
  simp only [List.append_assoc, List.singleton_append, List.cons_append, List.nil_append]
  rw [endL_a, endL_eol _ _ (head_row _ _), endL_row, endL_eol _ _ (head_row _ _), endL_row, endL_eol _ _ (head_row _ _), endL_row]
  have e := endL_eol (k + 3) [] (by simp)
  rw [List.append_nil] at e
  rw [e, endL_nil]
theorem endL_text (a b c : Nat) : endL (textL a b c) = textL a b c := by
  have e : textL a b c = [97] ++ eolL 2 ++ (rowL a ++ eolL 2) ++ (rowL b ++ eolL 2) ++ (rowL c ++ eolL 2) := rfl
  conv => lhs; rw [e]
  unfold textL
  simp only [List.append_assoc, List.singleton_append, List.cons_append, List.nil_append]
  rw [endL_a, endL_eol _ _ (head_row _ _), endL_row, endL_eol _ _ (head_row _ _), endL_row, endL_eol _ _ (head_row _ _), endL_row]
  have e := endL_eol 2 [] (by simp)
  rw [List.append_nil] at e
  rw [e, endL_nil]
theorem dbl_dots (r : List Nat) : ∀ n, dblL false (List.replicate n 46 ++ 97 :: 13 :: 10 :: r) = List.replicate n 46 ++ 97 :: 13 :: 10 :: dblL true r
  | 0 => rfl
  | n + 1 => by
    rw [List.replicate_succ, List.cons_append]
    conv => lhs; unfold dblL
    rw [if_neg (fun k => absurd k.1 (by decide))]
    show 46 :: dblL false _ = _
    rw [dbl_dots r n]
    rfl
/-- a dot more, but for nought -/
noncomputable def up (n : Nat) : Nat := if n = 0 then 0 else n + 1
theorem dbl_row (n : Nat) (r : List Nat) : dblL true (rowL n ++ 13 :: 10 :: r) = rowL (up n) ++ 13 :: 10 :: dblL true r := by
  unfold rowL
  rw [List.append_assoc, List.append_assoc]
  cases n with
  | zero => rfl
  | succ n =>
    show dblL true (46 :: (List.replicate n 46 ++ 97 :: 13 :: 10 :: r)) = _
    conv => lhs; unfold dblL
    rw [if_pos (And.intro rfl rfl), dbl_dots]
    show _ = List.replicate (n + 1 + 1) 46 ++ _
    rw [List.replicate_succ, List.replicate_succ]
    rfl
theorem dbl_text (a b c : Nat) : dblL true (textL a b c) = textL (up a) (up b) (up c) := by
  unfold textL
  simp only [List.append_assoc, List.cons_append, List.nil_append]
  show 97 :: 13 :: 10 :: dblL true _ = _
  rw [dbl_row, dbl_row, dbl_row]
  rfl
/-- the mail behind i sendings -/
noncomputable def TX (k p q r : Nat) : Nat → Str
  | 0 => ⟨(mailL k p q r).toArray⟩
  | 1 => ⟨(textL (up p) (up q) (up r)).toArray⟩
  | 2 => ⟨(textL (up (up p)) (up (up q)) (up (up r))).toArray⟩
  | _ => ⟨(textL (up (up (up p))) (up (up (up q))) (up (up (up r)))).toArray⟩
/-- the parts behind i sendings -/
noncomputable def nw (p i : Nat) : Nat := if p = 0 then 0 else p + i
theorem up_nw (p i : Nat) : up (nw p i) = nw p (i + 1) := by unfold up nw; split <;> simp_all <;> omega
theorem up_is (p : Nat) : up p = nw p 1 := by unfold up nw; rfl
theorem up2 (p : Nat) : up (up p) = nw p 2 := (congrArg up (up_is p)).trans (up_nw p 1)
theorem up3 (p : Nat) : up (up (up p)) = nw p 3 := (congrArg up (up2 p)).trans (up_nw p 2)
theorem TX_succ (k p q r : Nat) {i : Nat} (hi : i < 3) : TX k p q r (i + 1) = ⟨(textL (nw p (i + 1)) (nw q (i + 1)) (nw r (i + 1))).toArray⟩ := by
  match i, hi with
  | 0, _ => show (⟨(textL (up p) (up q) (up r)).toArray⟩ : Str) = _; rw [up_is, up_is, up_is]
  | 1, _ => show (⟨(textL (up (up p)) (up (up q)) (up (up r))).toArray⟩ : Str) = _; rw [up2, up2, up2]
  | 2, _ => show (⟨(textL (up (up (up p))) (up (up (up q))) (up (up (up r)))).toArray⟩ : Str) = _; rw [up3, up3, up3]
/-- the mail half way -/
noncomputable def midX (k p q r : Nat) : Nat → Str
  | 0 => ⟨(textL p q r).toArray⟩
  | i + 1 => TX k p q r (i + 1)
theorem send_1 (k p q r : Nat) {i : Nat} (hi : i < 3) : crlfed (TX k p q r i) = midX k p q r i := by
  match i, hi with
  | 0, _ => show crlfed ⟨_⟩ = _; rw [crlfed_is, endL_mail]; rfl
  | 1, _ => show crlfed ⟨_⟩ = _; rw [crlfed_is, endL_text]; rfl
  | 2, _ => show crlfed ⟨_⟩ = _; rw [crlfed_is, endL_text]; rfl
theorem send_2 (k p q r : Nat) {i : Nat} (hi : i < 3) : dotted (midX k p q r i) = TX k p q r (i + 1) := by
  match i, hi with
  | 0, _ => show dotted ⟨_⟩ = _; rw [dotted_is, dbl_text]; rfl
  | 1, _ => show dotted ⟨_⟩ = _; rw [dotted_is, dbl_text]; rfl
  | 2, _ => show dotted ⟨_⟩ = _; rw [dotted_is, dbl_text]; rfl
theorem nw_le {p i : Nat} (hp : p ≤ 9) (hi : i ≤ 3) : nw p i ≤ 12 := by unfold nw; split <;> omega
theorem textL_len (a b c : Nat) : (textL a b c).length = a + b + c + 12 := by simp [textL, rowL]; omega
theorem mailL_len (k p q r : Nat) : (mailL k p q r).length ≤ p + q + r + 12 := by
  have h : ∀ i, (eolL i).length ≤ 2 := fun i => by unfold eolL; split <;> (try split) <;> simp
  have h0 := h k
  have h1 := h (k + 1)
  have h2 := h (k + 2)
  have h3 := h (k + 3)
  simp [mailL, rowL]
  omega
theorem TX_len {k p q r i : Nat} (hp : p ≤ 9) (hq : q ≤ 9) (hr : r ≤ 9) (hi : i ≤ 3) : (TX k p q r i).cps.size ≤ 100 := by
  cases i with
  | zero => show (mailL k p q r).toArray.size ≤ _; have := mailL_len k p q r; simp; omega
  | succ i =>
    rw [TX_succ k p q r (by omega)]
    show (textL _ _ _).toArray.size ≤ _
    have h1 := nw_le (i := i + 1) hp (by omega)
    have h2 := nw_le (i := i + 1) hq (by omega)
    have h3 := nw_le (i := i + 1) hr (by omega)
    simp [textL_len]; omega
theorem midX_len {k p q r i : Nat} (hp : p ≤ 9) (hq : q ≤ 9) (hr : r ≤ 9) (hi : i ≤ 3) : (midX k p q r i).cps.size ≤ 100 := by
  cases i with
  | zero => show (textL p q r).toArray.size ≤ _; simp [textL_len]; omega
  | succ i => exact TX_len hp hq hr hi
end
section
noncomputable def dotS (n : Nat) : Str := mkS (List.replicate n 46)
noncomputable def rowE (n : Nat) : Str := mkS (List.replicate n 46 ++ [97, 13, 10])
noncomputable def nlS (i : Int) : Str := if i = 0 then Str.ofString "\n" else if i = 1 then Str.ofString "\r" else Str.ofString "\r\n"
noncomputable def dotB (n : Nat) : Bool := Txt.mul (Str.ofString ".") (n : Int) == dotS n
theorem dot_all : (List.range 13).all dotB = true := by decide +kernel
theorem dot_at {n : Nat} (h : n ≤ 12) : Txt.mul (Str.ofString ".") (n : Int) = dotS n := eq_of_beq (List.all_eq_true.mp dot_all n (List.mem_range.mpr (by omega)))
theorem lit_a : Str.ofString "a" = mkS [97] := by decide +kernel
theorem lit_ae : Str.ofString "a\r\n" = mkS [97, 13, 10] := by decide +kernel
theorem mkS_app (l r : List Nat) : mkS l ++ mkS r = mkS (l ++ r) := by
  refine Str.ext' ?_
  rw [Str.cps_append]
  simp [mkS]
theorem dot_a (n : Nat) : dotS n ++ Str.ofString "a" = rowS n := by rw [lit_a]; exact mkS_app _ _
theorem dot_ae (n : Nat) : dotS n ++ Str.ofString "a\r\n" = rowE n := by rw [lit_ae]; exact mkS_app _ _
theorem nl_is (i : Nat) : nlS ((i : Int).fmod 3) = mkS (eolL i) := by
  have e : (i : Int).fmod 3 = ((i % 3 : Nat) : Int) := by rw [Int.fmod_eq_emod_of_nonneg _ (by decide)]; exact (Int.natCast_emod i 3).symm
  rw [e]
  unfold nlS eolL
  have h : i % 3 < 3 := Nat.mod_lt _ (by decide)
  have h3 : i % 3 = 0 ∨ i % 3 = 1 ∨ i % 3 = 2 := by omega
  rcases h3 with h | h | h <;> rw [h] <;> decide +kernel
section
variable {prog : Program} {w : World} {A : Around} {E : Value → Shared → Prop} {s : Shared} {Q : Value → Shared → Prop} {h₀ : Heap} {L : Addr} {m : Str → Option Value} {news : List (Addr × Obj)} {t u : Tok}
theorem mul_r {n : Nat} (h : n ≤ 12) (hq : ∀ t' k, Q (.str (dotS n) t') { s with toks := k }) : wpAny (model prog w) A (binaryOp .Mult (.str (Str.ofString ".") t) (.int (n : Int) u)) Q E s :=
  SB.mul (mulOk_of 16 1048576 (by decide +kernel) (by omega) (by omega) (by decide) (by decide)) (by rw [dot_at h]; exact hq)
theorem join_list {l : List (Str × Tok)} {D : Addr} {o : Obj} {x : Str} (N : News h₀ L s.heap news) (hm : (D, o) ∈ news) (hc : o.cls = .type "list") (hd : ∃ n, o.data = .seq (strValues l).toArray n) (e : Txt.join (Str.ofString "") (l.map (·.1)) = x) (hz : x.cps.size ≤ 1000)
    (hq : ∀ t' k, Q (.str x t') { s with toks := k }) : wpAny (model prog w) A (call (.builtin "str.join") [.str (Str.ofString "") t, .ref D]) Q E s := by
  obtain ⟨n, hd⟩ := hd
  have e0 : Str.ofString "" = ⟨#[]⟩ := by decide +kernel
  rw [e0] at e ⊢
  have hf := join_flat l
  rw [e] at hf
  refine SC.join (l := l) ⟨o, (N _ hm).1, hc, n, hd⟩ rfl (join_ok ?_) fun v tk => ?_
  · rw [← hf]; simp; omega
  · rw [e]; exact hq _ _
theorem join_mk (a b c d : List Nat) : Txt.join (Str.ofString "") [mkS a, mkS b, mkS c, mkS d] = mkS (a ++ b ++ c ++ d) := by
  have e0 : Str.ofString "" = ⟨#[]⟩ := by decide +kernel
  rw [e0]
  refine Str.ext' ?_
  rw [← Array.toList_inj]
  have := join_flat [(mkS a, 0), (mkS b, 0), (mkS c, 0), (mkS d, 0)]
  rw [show ([(mkS a, 0), (mkS b, 0), (mkS c, 0), (mkS d, 0)] : List (Str × Tok)).map (·.1) = [mkS a, mkS b, mkS c, mkS d] from rfl] at this
  rw [this]
  simp [flatL, mkS]
theorem join_mk3 (a b c : List Nat) : Txt.join (Str.ofString "") [mkS a, mkS b, mkS c] = mkS (a ++ b ++ c) := by
  have e0 : Str.ofString "" = ⟨#[]⟩ := by decide +kernel
  rw [e0]
  refine Str.ext' ?_
  rw [← Array.toList_inj]
  have := join_flat [(mkS a, 0), (mkS b, 0), (mkS c, 0)]
  rw [show ([(mkS a, 0), (mkS b, 0), (mkS c, 0)] : List (Str × Tok)).map (·.1) = [mkS a, mkS b, mkS c] from rfl] at this
  rw [this]
  simp [flatL, mkS]
end
theorem dotS_len (n : Nat) : (dotS n).length = n := by simp [dotS, mkS, Str.length]
theorem cat_q {prog : Program} {w : World} {A : Around} {E : Value → Shared → Prop} {s : Shared} {Q : Value → Shared → Prop} {x y r : Str} {t u : Tok} (e : x ++ y = r) (hz : x.length + y.length ≤ 1000) (h : ∀ t' k, Q (.str r t') { s with toks := k }) : wpAny (model prog w) A (binaryOp .Add (.str x t) (.str y u)) Q E s :=
  SB.add (by subst e; exact h) (by have := sizeLine_eq; omega)
end
section
section
variable {prog : Program} {w : World} {A : Around} {E : Value → Shared → Prop} {s : Shared} {h₀ : Heap} {L : Addr} {m : Str → Option Value} {env : Env}
/-- a comprehension over three numbers, its turns alike -/
theorem CompRestP.ints3 {elt : Expr} {x : Str} {scope : Scope} {cl : List (Str × Addr)} {Fin : List Value → List (Addr × Obj) → Prop} {news : List (Addr × Obj)} {p q r : Nat} {t1 t2 t3 : Tok} (V : Nat → Tok → Value) (hp : p ≤ 12) (hq : q ≤ 12) (hr : r ≤ 12)
    (turn : ∀ (n : Nat) t I oI C oC D m₂ h tk ys (E' : Value → Shared → Prop), n ≤ 12 → 0 < tk → LCg.NsObj oC m₂ → m₂ x = some (.int (n : Int) t) → Fr h₀ L h m → News h₀ L h ((I, oI) :: (C, oC) :: (D, LCg.lst ys) :: news) →
      LCg.Off3 I C D news → ((@Ne Nat I C) ∧ (@Ne Nat I D) ∧ (@Ne Nat C D)) →
      wpAny (model prog w) A (eval elt (compEnvC scope cl C env)) (CompEndP h₀ L m { s with heap := h, toks := tk } ((I, oI) :: (C, oC) :: (D, LCg.lst ys) :: news) (fun y => ∃ t, y = V n t)) E' { s with heap := h, toks := tk })
    (fin : ∀ u0 u1 u2, Fin [V p u0, V q u1, V r u2] news) :
    CompRestP prog w A h₀ L m env elt x scope cl s (fun i v => #[Value.int (p : Int) t1, Value.int (q : Int) t2, Value.int (r : Int) t3][i]? = some v) Fin news 3 0 [] := by
  have go : ∀ (n : Nat) t, n ≤ 12 → ∀ (G : Value → Prop), (∀ u, G (V n u)) → ∀ v I oI C oC D m₂ h tk ys (E' : Value → Shared → Prop), v = .int (n : Int) t → 0 < tk → LCg.NsObj oC m₂ → m₂ x = some v → Fr h₀ L h m → News h₀ L h ((I, oI) :: (C, oC) :: (D, LCg.lst ys) :: news) →
      LCg.Off3 I C D news → ((@Ne Nat I C) ∧ (@Ne Nat I D) ∧ (@Ne Nat C D)) →
      wpAny (model prog w) A (eval elt (compEnvC scope cl C env)) (CompEndP h₀ L m { s with heap := h, toks := tk } ((I, oI) :: (C, oC) :: (D, LCg.lst ys) :: news) G) E' { s with heap := h, toks := tk } := by
    intro n t hn G hG v I oI C oC D m₂ h tk ys E' e htk hC hx F N off ne
    subst e
    exact wpAny_mono (turn n t I oI C oC D m₂ h tk ys E' hn htk hC hx F N off ne) (fun y s₄ ⟨h', tk', e, F, N, u, q⟩ => ⟨h', tk', e, F, N, by subst q; exact hG u⟩) fun _ _ e => e
  refine CompRestP.succ fun v I oI C oC D m₂ h tk E' a1 a2 a3 a4 a5 a6 a7 a8 => go p t1 hp _ (fun u0 => ?_) v I oI C oC D m₂ h tk _ E' (Option.some.inj a2).symm a1 a3 a4 a5 a6 a7 a8
  refine CompRestP.succ fun v I oI C oC D m₂ h tk E' a1 a2 a3 a4 a5 a6 a7 a8 => go q t2 hq _ (fun u1 => ?_) v I oI C oC D m₂ h tk _ E' (Option.some.inj a2).symm a1 a3 a4 a5 a6 a7 a8
  refine CompRestP.succ fun v I oI C oC D m₂ h tk E' a1 a2 a3 a4 a5 a6 a7 a8 => go r t3 hr _ (fun u2 => ?_) v I oI C oC D m₂ h tk _ E' (Option.some.inj a2).symm a1 a3 a4 a5 a6 a7 a8
  exact fin u0 u1 u2
end
end
section
/-- the turns of a comprehension over enumerate of a list: the number and the item -/
noncomputable def CompRestE (prog : Program) (w : World) (A : Around) (h₀ : Heap) (L : Addr) (m : Str → Option Value) (env : Env) (elt : Expr) (a b : Str) (scope : Scope) (cl : List (Str × Addr)) (s : Shared) (its : Array Value)
    (Fin : List Value → List (Addr × Obj) → Prop) (news : List (Addr × Obj)) : Nat → Nat → List Value → Prop
  | 0, _, ys => Fin ys news
  | k + 1, i, ys => ∀ x t e oe it oi C oC D m₂ h tk (E' : Value → Shared → Prop), its[i]? = some x → LCg.NsObj oC m₂ → m₂ a = some (.int (i : Int) t) → m₂ b = some x → Fr h₀ L h m → News h₀ L h ((e, oe) :: (it, oi) :: (C, oC) :: (D, LCg.lst ys) :: news) →
      wpAny (model prog w) A (eval elt (compEnvC scope cl C env)) (CompEndP h₀ L m { s with heap := h, toks := tk } ((e, oe) :: (it, oi) :: (C, oC) :: (D, LCg.lst ys) :: news) (fun y => CompRestE prog w A h₀ L m env elt a b scope cl s its Fin news k (i + 1) (ys ++ [y]))) E' { s with heap := h, toks := tk }
section
variable {prog : Program} {w : World} {A : Around} {E : Value → Shared → Prop} {s : Shared} {h₀ : Heap} {L : Addr} {m : Str → Option Value} {env : Env}
theorem block_E {elt iter : Expr} {a b : Str} {pa pb tp : Pos} {kk : Nat} {scope : Scope} {cl : List (Str × Addr)} {pos : Pos} {s₂ : Shared} {e it l : Addr} {its : Array Value} {lo : Obj} {news : List (Addr × Obj)} {Fin : List Value → List (Addr × Obj) → Prop} {RR : Value → Addr → Result → Shared → Prop}
    (hh : A.handled = none) (hsz : its.size ≤ sizeLine) (hE : IsEnum s₂.heap e it 0 .none) (hI : s₂.heap.IsListIter it l 0) (hei : e ≠ it) (hle : l ≠ e) (hli : l ≠ it) (hlo : ∀ h : Heap, h.get? l = some lo → h.IsList l its) (hmem : (l, lo) ∈ news)
    (hcell : ∀ y ∈ scope.names, y.2 ≠ .cell) (hkind : scope.kind = .function) (hxa : scope.names.lookup a = some .local) (hxb : scope.names.lookup b = some .local) (hab : a ≠ b)
    (F : Fr h₀ L s₂.heap m) (N : News h₀ L s₂.heap news) (heL : L ≠ e) (hiL : L ≠ it) (he₀ : h₀.get? e = none) (hi₀ : h₀.get? it = none) (off : ∀ p ∈ news, p.1 ≠ e ∧ p.1 ≠ it)
    (R : CompRestE prog w A h₀ L m env elt a b scope cl s₂ its Fin news its.size 0 [])
    (hRR : ∀ D C h tk m' ys, Fr h₀ L h m → News h₀ L h ((D, LCg.lst ys) :: news) → LCg.Off1 D news → h.Ns C m' → h₀.get? C = none → C ≠ L → C ≠ D → (∀ p ∈ news, p.1 ≠ C) → Fin ys news → RR (.ref D) C (.ok .next) { s₂ with heap := h, toks := tk }) :
    wpAny (model prog w) A (newList []) (fun acc s₃ => wpAny (model prog w) A (newFunctionEnv scope env.globals cl [] env.qual none .none (some env)) (fun cenv s₄ =>
      codeAny (model prog w) A (.compStart (.ListComp elt [⟨.Tuple [.Name a pa, .Name b pb] kk tp, iter, [], 0⟩] scope pos) 0 (.ref e) acc { cenv with scope := relabel scope env }) (RR acc cenv.locals) s₄) E s₃) E s₂ := by
  have W := KTurns.ofWalksU (elts := [.Name a pa, .Name b pb]) (k := kk) (pos := tp) (WalksT.enumerate (prog := prog) (w := w) hh e it l hei hle hli its).toU
  refine wpAny_newObj_type (wpAny_newFunctionEnv hcell (by intro y hy; simp at hy) (fun h₁ hns hsb => ?_) hkind)
  dsimp only at hns hsb ⊢
  obtain ⟨D, hD⟩ : ∃ D, D = s₂.heap.objs.size := ⟨_, rfl⟩
  have hz1 : (s₂.heap.push { cls := .type "list", data := .seq ([] : List Value).toArray }).objs.size = D + 1 := by rw [Heap.size_push, hD]
  rw [hz1] at hns hsb ⊢
  rw [← hD]
  have e01 : @Ne Nat D (D + 1) := by omega
  have old : ∀ b o, s₂.heap.get? b = some o → h₁.get? b = some o := fun b o e => by
    refine hsb.extBut b o ?_ (Heap.get?_push_of_some _ (Heap.get?_push_of_some _ e))
    have h1 : b < D := by rw [hD]; exact Heap.lt_size e
    exact Nat.ne_of_lt (Nat.lt_succ_of_lt h1)
  have hacc : h₁.get? D = some (LCg.lst []) := hsb.extBut _ _ e01 (by rw [hD]; exact Heap.get?_push_of_some _ (Heap.get?_push_size _ rfl))
  have fresh₀ : ∀ a, D ≤ a → h₀.get? a = none := fun a ha => by
    cases e : h₀.get? a with
    | none => rfl
    | some o' => have := Heap.lt_size (F.keep a o' e); rw [← hD] at this; exact absurd this (Nat.not_lt.mpr ha)
  have lt : ∀ {b o}, s₂.heap.get? b = some o → b < D := fun e => by rw [hD]; exact Heap.lt_size e
  have hLlt : L < D := by rw [hD]; exact F.ns.lt
  obtain ⟨oI₀, hI0, _⟩ := id hI
  have hilt : it < D := lt hI0
  have helt : e < D := lt hE
  have hnlt : ∀ p ∈ news, p.1 < D := fun p hp => lt (N p hp).1
  have ne : ∀ {a b : Nat}, a < D → D ≤ b → a ≠ b := fun h1 h2 => by omega
  have d1 : D ≤ D + 1 := by omega
  have off' : ∀ p ∈ news, p.1 ≠ e ∧ p.1 ≠ it ∧ p.1 ≠ D + 1 ∧ p.1 ≠ D := fun p hp => ⟨(off p hp).1, (off p hp).2, ne (hnlt p hp) d1, ne (hnlt p hp) (Nat.le_refl _)⟩
  have loop : ∀ s₃ : Shared, s₃ = { s₂ with heap := h₁, toks := s₂.toks + ([] : List (Str × Value)).length } → codeAny (model prog w) A (.compLoop (.ListComp elt [⟨.Tuple [.Name a pa, .Name b pb] kk tp, iter, [], 0⟩] scope pos) 0 (.ref e) (.ref D) (compEnvC scope cl (D + 1) env)) (RR (.ref D) (D + 1)) s₃ := by
    rintro s₃ rfl
    refine kcp_loop
      (fun k s' => ∃ h' tk i ys m', s' = { s₂ with heap := h', toks := tk } ∧ i ≤ its.size ∧ k = its.size + 1 - i ∧ ys.length = i ∧ (∃ old, IsEnum h' e it i old) ∧ h'.IsListIter it l i ∧ Fr h₀ L h' m ∧ h'.Ns (D + 1) m' ∧
        News h₀ L h' ((D, LCg.lst ys) :: news) ∧ CompRestE prog w A h₀ L m env elt a b scope cl s₂ its Fin news (its.size - i) i ys) ?_ (its.size + 1)
      ⟨h₁, _, 0, [], _, rfl, Nat.zero_le _, rfl, rfl, ⟨_, old _ _ hE⟩, hI.at fun o e => old _ o e, F.keeps old, hns, fun p hp => ?_, R⟩
    · intro k s' hst
      refine named ?_
      intro Gn kn
      obtain ⟨h', tk, i, ys, m', rfl, hi, rfl, hyl, hen, hit, F', hn', N', R'⟩ := hst
      refine kn ?_
      have hlist : h'.IsList l its := hlo h' (N' _ (.tail _ hmem)).1
      by_cases hlt : i < its.size
      · obtain ⟨j, hj⟩ : ∃ j, its.size - i = j + 1 := ⟨its.size - i - 1, by omega⟩
        rw [hj] at R'
        refine W.item i _ _ _ hlt ⟨hen, hit, hlist⟩ fun v h₂ tk₂ hMd hk₂ => ?_
        refine W.go i v _ _ _ hMd fun h₃ hP₃ hst₃ hk₃ => ?_
        have k3 : ∀ b o, b ≠ e → b ≠ it → h'.get? b = some o → h₃.get? b = some o := fun b o h1 h2 e => hk₃ b o (by simp [h1, h2]) (hk₂ b o (by simp [h1, h2]) e)
        obtain ⟨T, vals, rfl, ⟨t, x, hx, rfl⟩, hT⟩ := hP₃
        have hn₃ : h₃.Ns (D + 1) m' := hn'.at' fun o q => k3 _ o (Ne.symm (ne helt d1)) (Ne.symm (ne hilt d1)) q
        refine kcp_assign hh hT (lookup_relabel_local hxa) (lookup_relabel_local hxb) (by simp [compEnvC, relabel, hkind]) hn₃ fun h₄ tk₄ hn₄ hk₄ => ?_
        have k4 : ∀ b o, b ≠ e → b ≠ it → b ≠ D + 1 → h'.get? b = some o → h₄.get? b = some o := fun b o h1 h2 h3 q => hk₄ b o h3 (k3 b o h1 h2 q)
        obtain ⟨⟨old₃, hen₃⟩, hit₃, _⟩ := hst₃
        have hen₄ : h₄.get? e = some _ := hk₄ e _ (ne helt d1) hen₃
        have hit₄ : h₄.IsListIter it l (i + 1) := hit₃.at fun o q => hk₄ _ o (ne hilt d1) q
        obtain ⟨oi, hoi, _⟩ := id hit₄
        obtain ⟨oC, heC, hoC⟩ := LCg.ns_obj hn₄
        have hL' : L ≠ D + 1 := ne hLlt d1
        have F₄ : Fr h₀ L h₄ m := ⟨F'.ns.at' fun o q => k4 L o heL hiL hL' q, fun b o q => k4 b o (fun z => by rw [z, he₀] at q; cases q) (fun z => by rw [z, hi₀] at q; cases q) (fun z => by rw [z, fresh₀ _ d1] at q; cases q) (F'.keep b o q), F'.above⟩
        have N₄ : News h₀ L h₄ ((e, _) :: (it, oi) :: (D + 1, oC) :: (D, LCg.lst ys) :: news) := fun p hp => by
          rcases List.mem_cons.mp hp with rfl | hp
          · exact ⟨hen₄, Ne.symm heL, he₀⟩
          rcases List.mem_cons.mp hp with rfl | hp
          · exact ⟨hoi, Ne.symm hiL, hi₀⟩
          rcases List.mem_cons.mp hp with rfl | hp
          · exact ⟨heC, Ne.symm hL', fresh₀ _ d1⟩
          have z := N' p hp
          refine ⟨k4 _ _ ?_ ?_ ?_ z.1, z.2⟩
          · rcases List.mem_cons.mp hp with rfl | hp
            · exact Ne.symm (ne helt (Nat.le_refl _))
            · exact (off' p hp).1
          · rcases List.mem_cons.mp hp with rfl | hp
            · exact Ne.symm (ne hilt (Nat.le_refl _))
            · exact (off' p hp).2.1
          · rcases List.mem_cons.mp hp with rfl | hp
            · exact e01
            · exact (off' p hp).2.2.1
        refine wpAny_mono (R' x t e _ it oi (D + 1) oC D _ h₄ _ _ hx hoC (by simp [hab]) (by simp) F₄ N₄) (fun y s₅ h₅ => ?_) fun _ _ q => q
        refine named ?_
        intro Gm km
        obtain ⟨h₅, tk₅, rfl, F₅, N₅, R₅⟩ := h₅
        refine km ?_
        have zE := (N₅ (e, _) (List.mem_cons_self ..)).1
        have zI := (N₅ (it, oi) (memk 1 rfl)).1
        have zC := (N₅ (D + 1, oC) (memk 2 rfl)).1
        have zD := (N₅ (D, LCg.lst ys) (memk 3 rfl)).1
        refine append_at (hsz := by show ys.toArray.size ≤ sizeLine; rw [List.size_toArray, hyl]; exact Nat.le_trans hi hsz) zD fun h₆ hs₆ hD₆ => ?_
        have hit₅ : h₅.IsListIter it l (i + 1) := hit₄.at fun o q => by rw [hoi] at q; cases q; exact zI
        refine ⟨its.size + 1 - (i + 1), by omega, h₆, tk₅, i + 1, ys ++ [y], _, rfl, hlt, rfl, by rw [List.length_append, List.length_singleton, hyl], ⟨old₃, hs₆.extBut _ _ (ne helt (Nat.le_refl _)) zE⟩, hit₅.at fun o q => hs₆.extBut _ o (ne hilt (Nat.le_refl _)) q,
          F₅.change hs₆ (Ne.symm (ne hLlt (Nat.le_refl _))) (fresh₀ _ (Nat.le_refl _)), (hoC.ns zC).sameBut hs₆ (Ne.symm e01), fun p hp => ?_, ?_⟩
        · rcases List.mem_cons.mp hp with rfl | hp
          · exact ⟨hD₆.trans (congrArg some (LCg.lst_snoc ys _)), Ne.symm (ne hLlt (Nat.le_refl _)), fresh₀ _ (Nat.le_refl _)⟩
          · have z := N₅ p (.tail _ (.tail _ (.tail _ (.tail _ hp))))
            exact ⟨hs₆.extBut _ _ (off' p hp).2.2.2 z.1, z.2⟩
        · rw [show its.size - (i + 1) = j by omega]
          exact R₅
      · obtain rfl : i = its.size := Nat.le_antisymm hi (Nat.not_lt.mp hlt)
        rw [Nat.sub_self] at R'
        refine W.done _ _ _ ⟨hen, hit, hlist⟩ fun h₂ tk₂ hk₂ => ?_
        have k2 : ∀ b o, b ≠ e → b ≠ it → h'.get? b = some o → h₂.get? b = some o := fun b o h1 h2 q => hk₂ b o (by simp [h1, h2]) q
        refine hRR D (D + 1) h₂ tk₂ _ ys ⟨F'.ns.at' fun o q => k2 L o heL hiL q, fun b o q => k2 b o (fun z => by rw [z, he₀] at q; cases q) (fun z => by rw [z, hi₀] at q; cases q) (F'.keep b o q), F'.above⟩ (fun p hp => ?_) (off1_of fun p hp => (off' p hp).2.2.2)
          (hn'.at' fun o q => k2 _ o (Ne.symm (ne helt d1)) (Ne.symm (ne hilt d1)) q) (fresh₀ _ d1) (Ne.symm (ne hLlt d1)) (Ne.symm e01) (fun p hp => (off' p hp).2.2.1) R'
        have z := N' p hp
        refine ⟨k2 _ _ ?_ ?_ z.1, z.2⟩
        · rcases List.mem_cons.mp hp with rfl | hp
          · exact Ne.symm (ne helt (Nat.le_refl _))
          · exact (off' p hp).1
        · rcases List.mem_cons.mp hp with rfl | hp
          · exact Ne.symm (ne hilt (Nat.le_refl _))
          · exact (off' p hp).2.1
    · rcases List.mem_cons.mp hp with rfl | hp
      · exact ⟨hacc, Ne.symm (ne hLlt (Nat.le_refl _)), fresh₀ _ (Nat.le_refl _)⟩
      · exact ⟨old _ _ (N p hp).1, (N p hp).2⟩
  exact codeAny_compStart_list (loop _ rfl) (wpAny_pyIter_enum (old _ _ hE) (loop _ rfl))
noncomputable def CSrcE (prog : Program) (w : World) (A : Around) (h₀ : Heap) (L : Addr) (m : Str → Option Value) (env : Env) (elt : Expr) (a b : Str) (scope : Scope) (cl : List (Str × Addr)) (Fin : Shared → List Value → List (Addr × Obj) → Prop) (xv : Value) (s₁ : Shared) : Prop :=
  ∃ e it l its n news, xv = .ref e ∧ A.handled = none ∧ IsEnum s₁.heap e it 0 .none ∧ s₁.heap.IsListIter it l 0 ∧ e ≠ it ∧ l ≠ e ∧ l ≠ it ∧ Fr h₀ L s₁.heap m ∧ News h₀ L s₁.heap news ∧ (l, listOf its n) ∈ news ∧ L ≠ e ∧ L ≠ it ∧ h₀.get? e = none ∧ h₀.get? it = none ∧ (∀ p ∈ news, p.1 ≠ e ∧ p.1 ≠ it) ∧ its.size ≤ sizeLine ∧
    CompRestE prog w A h₀ L m env elt a b scope cl s₁ its (Fin s₁) news its.size 0 []
/-- the call enumerate(xs) at the head of a comprehension -/
theorem call_enumE {elt : Expr} {a b : Str} {scope : Scope} {cl : List (Str × Addr)} {Fin : Shared → List Value → List (Addr × Obj) → Prop} {l : Addr} {its : Array Value} {n : Nat} {news : List (Addr × Obj)}
    (hh : A.handled = none) (F : Fr h₀ L s.heap m) (N : News h₀ L s.heap news) (hm : (l, listOf its n) ∈ news) (hsz : its.size ≤ sizeLine)
    (h : ∀ g, CompRestE prog w A h₀ L m env elt a b scope cl { s with heap := g } its (Fin { s with heap := g }) news its.size 0 []) :
    wpAny (model prog w) A (call (.type "enumerate") [.ref l]) (CSrcE prog w A h₀ L m env elt a b scope cl Fin) E s := by
  have hl : s.heap.IsList l its := ⟨_, (N _ hm).1, rfl, n, rfl⟩
  have hlt : l < s.heap.objs.size := Heap.lt_size (N _ hm).1
  have hLs : L < s.heap.objs.size := F.ns.lt
  refine call_enumerate_list hl fun h' hE hI hsz' hk => ?_
  exact ⟨_, _, l, its, n, news, rfl, hh, hE, hI, Nat.succ_ne_self _, ktu_ne 1 hlt, Nat.ne_of_lt hlt, F.keeps hk, N.grown hk, hm, ktu_ne 1 hLs, Nat.ne_of_lt hLs, ktu_new F (Nat.le_add_right _ _), ktu_new F (Nat.le_refl _), fun p hp => ⟨ktu_ne 1 (Heap.lt_size (N p hp).1), Nat.ne_of_lt (Heap.lt_size (N p hp).1)⟩, hsz, h _⟩
theorem comp_E {elt iter : Expr} {a b : Str} {pa pb tp : Pos} {kk : Nat} {scope : Scope} {cl : List (Str × Addr)} {pos : Pos} {Q : Value → Shared → Prop} (F₀ : Fr h₀ L s.heap m)
    (hclos : closureFor scope env = pure cl) (hcell : ∀ y ∈ scope.names, y.2 ≠ .cell) (hkind : scope.kind = .function)
    (hnames : ∀ y ∈ scope.names, y.2 = .local → scope.names.lookup y.1 = some .local) (hxa : scope.names.lookup a = some .local) (hxb : scope.names.lookup b = some .local) (hab : a ≠ b)
    (h : wpAny (model prog w) A (eval iter env) (CSrcE prog w A h₀ L m env elt a b scope cl (fun s₂ => LCg.FinE h₀ L m s₂ Q)) E s)
    (hs : ∀ x, foldedSetIterable iter env x = pure x := by intro _; rfl) :
    wpAny (model prog w) A (eval (.ListComp elt [⟨.Tuple [.Name a pa, .Name b pb] kk tp, iter, [], 0⟩] scope pos) env) Q E s := by
  rw [eval_ListComp]
  refine wpAny_comprehension_free (use := none) rfl hs hclos hkind hnames (wpAny_mono h (fun xv s₁ h₁ => ?_) fun _ _ e => e)
  obtain ⟨e, it, l, its, n, news, rfl, hh, hE, hI, hei, hle, hli, F, N, hm, heL, hiL, he₀, hi₀, off, hsz, R⟩ := h₁
  have hlo : ∀ h : Heap, h.get? l = some (listOf its n) → h.IsList l its := fun h q => ⟨_, q, rfl, n, rfl⟩
  refine wpAny_pyIter_enum hE ?_
  refine block_E hh hsz hE hI hei hle hli hlo hm hcell hkind hxa hxb hab F N heL hiL he₀ hi₀ off R ?_
  intro D C h tk m' ys F' N' o1 hn hC₀ hCL hCD offC fin
  refine ⟨m', hn, fun h'' hs'' => fin D h'' tk (F'.change hs'' hCL hC₀) (fun p hp => ?_) o1⟩
  refine ⟨hs''.extBut _ _ ?_ (N' p hp).1, (N' p hp).2⟩
  rcases List.mem_cons.mp hp with rfl | hp
  · exact Ne.symm hCD
  · exact offC p hp
end
end
section
section
variable {prog : Program} {w : World} {A : Around} {E : Value → Shared → Prop} {s : Shared} {h₀ : Heap} {L : Addr} {m : Str → Option Value} {env : Env} {news : List (Addr × Obj)}
theorem CompRestE.strs4 {elt : Expr} {a b : Str} {scope : Scope} {cl : List (Str × Addr)} {Fin : List Value → List (Addr × Obj) → Prop} {X0 X1 X2 X3 : Str} {t0 t1 t2 t3 : Tok} (V : Nat → Str → Str) (h0 : X0.length ≤ 100) (h1 : X1.length ≤ 100) (h2 : X2.length ≤ 100) (h3 : X3.length ≤ 100)
    (turn : ∀ (i : Nat) (X : Str) tx t e oe it oi C oC D ys m₂ h tk (E' : Value → Shared → Prop), i < 4 → X.length ≤ 100 → LCg.NsObj oC m₂ → m₂ a = some (.int (i : Int) t) → m₂ b = some (.str X tx) → Fr h₀ L h m → News h₀ L h ((e, oe) :: (it, oi) :: (C, oC) :: (D, LCg.lst ys) :: news) →
      wpAny (model prog w) A (eval elt (compEnvC scope cl C env)) (CompEndP h₀ L m { s with heap := h, toks := tk } ((e, oe) :: (it, oi) :: (C, oC) :: (D, LCg.lst ys) :: news) (fun y => ∃ t, y = .str (V i X) t)) E' { s with heap := h, toks := tk })
    (fin : ∀ u0 u1 u2 u3, Fin [.str (V 0 X0) u0, .str (V 1 X1) u1, .str (V 2 X2) u2, .str (V 3 X3) u3] news) :
    CompRestE prog w A h₀ L m env elt a b scope cl s #[Value.str X0 t0, Value.str X1 t1, Value.str X2 t2, Value.str X3 t3] Fin news 4 0 [] := by
  have go : ∀ (i : Nat) (X : Str) (tx : Tok) (G : Value → Prop), i < 4 → X.length ≤ 100 → (∀ u, G (.str (V i X) u)) → ∀ x t e oe it oi C oC D ys m₂ h tk (E' : Value → Shared → Prop), x = .str X tx → LCg.NsObj oC m₂ → m₂ a = some (.int (i : Int) t) → m₂ b = some x → Fr h₀ L h m → News h₀ L h ((e, oe) :: (it, oi) :: (C, oC) :: (D, LCg.lst ys) :: news) →
      wpAny (model prog w) A (eval elt (compEnvC scope cl C env)) (CompEndP h₀ L m { s with heap := h, toks := tk } ((e, oe) :: (it, oi) :: (C, oC) :: (D, LCg.lst ys) :: news) G) E' { s with heap := h, toks := tk } := by
    intro i X tx G hi hX hG x t e oe it oi C oC D ys m₂ h tk E' q hC ha hb F N
    subst q
    exact wpAny_mono (turn i X tx t e oe it oi C oC D ys m₂ h tk E' hi hX hC ha hb F N) (fun y s₄ ⟨h', tk', e, F, N, u, q⟩ => ⟨h', tk', e, F, N, by subst q; exact hG u⟩) fun _ _ e => e
  exact fun x t e oe it oi C oC D m₂ h tk E' hx hC ha hb F N => go 0 X0 t0 _ (by decide) h0 (fun u0 =>
    fun x t e oe it oi C oC D m₂ h tk E' hx hC ha hb F N => go 1 X1 t1 _ (by decide) h1 (fun u1 =>
      fun x t e oe it oi C oC D m₂ h tk E' hx hC ha hb F N => go 2 X2 t2 _ (by decide) h2 (fun u2 =>
        fun x t e oe it oi C oC D m₂ h tk E' hx hC ha hb F N => go 3 X3 t3 _ (by decide) h3 (fun u3 => fin u0 u1 u2 u3)
          x t e oe it oi C oC D _ m₂ h tk E' (Option.some.inj hx).symm hC ha hb F N)
        x t e oe it oi C oC D _ m₂ h tk E' (Option.some.inj hx).symm hC ha hb F N)
      x t e oe it oi C oC D _ m₂ h tk E' (Option.some.inj hx).symm hC ha hb F N)
    x t e oe it oi C oC D _ m₂ h tk E' (Option.some.inj hx).symm hC ha hb F N
theorem tupIs {T : Addr} {vs : Array Value} (N : News h₀ L s.heap news) (hm : (T, tupO vs) ∈ news) : IsTup s.heap T vs := ⟨_, (N _ hm).1, rfl, 0, rfl⟩
/-- the end of a row, picked -/
theorem item_nl {T : Addr} {x : Int} {u a b c : Tok} {value slice : PySem.Expr} {Q : Value → Shared → Prop} (N : News h₀ L s.heap news) (hm : (T, tupO #[.str (Str.ofString "\n") a, .str (Str.ofString "\r") b, .str (Str.ofString "\r\n") c]) ∈ news) (h0 : 0 ≤ x) (h3 : x < 3)
    (h : ∀ t, Q (.str (nlS x) t) s) (hs : subscripted slice false (.ref T) (.int x u) = operate [.ref T, .int x u] (getItem (.ref T) (.int x u)) := by with_unfolding_all rfl) :
    wpAny (model prog w) A (subscriptTail value slice (.ref T) (.int x u)) Q E s := by
  have ht := tupIs N hm
  have hx : x = 0 ∨ x = 1 ∨ x = 2 := by omega
  rcases hx with rfl | rfl | rfl
  · exact item_tupleT (j := 0) ht (by decide) (by decide) rfl rfl (h a) hs
  · exact item_tupleT (j := 1) ht (by decide) (by decide) rfl rfl (h b) hs
  · exact item_tupleT (j := 2) ht (by decide) (by decide) rfl rfl (h c) hs
end
theorem eol_cat (l : List Nat) (K i : Nat) : mkS l ++ nlS (((K : Int) + (i : Int)).fmod 3) = mkS (l ++ eolL (K + i)) := by
  rw [show (K : Int) + (i : Int) = ((K + i : Nat) : Int) from (Int.natCast_add K i).symm, nl_is, mkS_app]
theorem nlS_len (i : Int) : (nlS i).length ≤ 2 := by
  unfold nlS
  split
  · decide +kernel
  · split
    · decide +kernel
    · decide +kernel
theorem mail_is (K P Q R : Nat) : Txt.join (Str.ofString "") [Str.ofString "a" ++ nlS (((K : Int) + ((0 : Nat) : Int)).fmod 3), rowS P ++ nlS (((K : Int) + ((1 : Nat) : Int)).fmod 3), rowS Q ++ nlS (((K : Int) + ((2 : Nat) : Int)).fmod 3), rowS R ++ nlS (((K : Int) + ((3 : Nat) : Int)).fmod 3)] = TX K P Q R 0 := by
  rw [lit_a, eol_cat, show rowS P = mkS (rowL P) from rfl, show rowS Q = mkS (rowL Q) from rfl, show rowS R = mkS (rowL R) from rfl, eol_cat, eol_cat, eol_cat, join_mk]
  rfl
theorem cat_sz {X : Str} {i : Int} (h : X.length ≤ 100) : X.length + (nlS i).length ≤ 1000 := by have := nlS_len i; omega
theorem newsTl {h₀ h : Heap} {L : Addr} {x : Addr × Obj} {news : List (Addr × Obj)} (N : News h₀ L h (x :: news)) : News h₀ L h news := fun p hp => N p (.tail _ hp)
end
section
/-- a list of sixths -/
noncomputable def Six (S : List Int) (o : Obj) : Prop := ∃ vs cap, o = wsN vs cap ∧ IntVs vs S
noncomputable def HomeR (S : List Int) (i : Nat) (hv : List Value) (A0 A1 A2 : Addr) (o0 o1 o2 : Obj) : Prop :=
  (0 < i → Six S o0) ∧ (1 < i → Six S o1) ∧ (2 < i → Six S o2) ∧ hv = (([Value.ref A0, .ref A1, .ref A2] : List Value).take i).reverse
theorem HomeR.zero (S : List Int) (A0 A1 A2 : Addr) (o0 o1 o2 : Obj) : HomeR S 0 [] A0 A1 A2 o0 o1 o2 := ⟨fun h => absurd h (by decide), fun h => absurd h (by decide), fun h => absurd h (by decide), rfl⟩
theorem HomeR.step {S : List Int} {i : Nat} {hv : List Value} {A0 A1 A2 D : Addr} {o0 o1 o2 o : Obj} (h : HomeR S i hv A0 A1 A2 o0 o1 o2) (hi : i < 3) (ho : Six S o) : HomeR S (i + 1) (hv ++ [.ref D]) D A0 A1 o o0 o1 := by
  obtain ⟨h0, h1, h2, rfl⟩ := h
  refine ⟨fun _ => ho, fun k => h0 (by omega), fun k => h1 (by omega), ?_⟩
  have : i = 0 ∨ i = 1 ∨ i = 2 := by omega
  rcases this with rfl | rfl | rfl <;> rfl
theorem HomeR.len {S : List Int} {i : Nat} {hv : List Value} {A0 A1 A2 : Addr} {o0 o1 o2 : Obj} (h : HomeR S i hv A0 A1 A2 o0 o1 o2) : hv.length ≤ 3 := by
  obtain ⟨h0, h1, h2, rfl⟩ := h
  rw [List.length_reverse, List.length_take]
  exact Nat.min_le_right _ _
theorem HomeR.end {S : List Int} {hv : List Value} {A0 A1 A2 : Addr} {o0 o1 o2 : Obj} (h : HomeR S 3 hv A0 A1 A2 o0 o1 o2) : hv = [.ref A2, .ref A1, .ref A0] ∧ Six S o0 ∧ Six S o1 ∧ Six S o2 := by
  obtain ⟨h0, h1, h2, rfl⟩ := h
  exact ⟨rfl, h0 (by decide), h1 (by decide), h2 (by decide)⟩
/-- off the list, the cell and the iterator -/
noncomputable def OffH (H C I A : Addr) : Prop := A ≠ H ∧ A ≠ C ∧ A ≠ I
/-- the map of a turn: the text, and what xs leaves -/
noncomputable def mapH (y : Str) (v : Value) (xs : List Str) (u m₀ : Str → Option Value) : Str → Option Value := fun z => if z = y then some v else dirt xs u m₀ z
/-- a turn of the sendings -/
noncomputable def TurnH (y : Str) (xs : List Str) (H C I : Addr) (base : List (Addr × Obj)) (X : Str) (R : List Value → Addr → Addr → Addr → Obj → Obj → Obj → Prop) (m₀ m' : Str → Option Value) (n' : List (Addr × Obj)) : Prop :=
  ∃ u t hv hc A0 A1 A2 o0 o1 o2 oC cv, R hv A0 A1 A2 o0 o1 o2 ∧ oC.data = .cell cv ∧ OffH H C I A0 ∧ OffH H C I A1 ∧ OffH H C I A2 ∧ m' = mapH y (.str X t) xs u m₀ ∧ n' = (A0, o0) :: (A1, o1) :: (A2, o2) :: (H, wsN hv hc) :: (C, oC) :: base
section
variable {prog : Program} {w : World} {A : Around} {E : Value → Shared → Prop} {s : Shared} {env : Env} {h₀ : Heap} {body : List Stmt} {Q : Flow → Shared → Prop}
theorem ItemsRest.invH {x : Str} {px : Pos} {ws : List (Addr × String)} {news : List (Addr × Obj)} {a₀ : Int} {n : Nat} {m₀ : Str → Option Value} {hc₀ : Nat} {oC₀ oZ : Obj} {cv₀ : Option Value} {t₀ : Tok} (y : Str) (xs : List Str) (H C I Z : Addr) (base : List (Addr × Obj)) (X : Nat → Str) (R : Nat → List Value → Addr → Addr → Addr → Obj → Obj → Obj → Prop)
    (hC₀ : oC₀.data = .cell cv₀) (hC : (C, oC₀) ∈ news) (hH : (H, wsN [] hc₀) ∈ news) (hZ : (Z, oZ) ∈ news) (h0 : R 0 [] Z Z Z oZ oZ oZ) (hb : SubL base news) (oz : OffH H C I Z) (hy : m₀ y = some (.str (X 0) t₀))
    (turn : ∀ i t u tx hv hc A0 A1 A2 o0 o1 o2 oC cv h tk, i < n → R i hv A0 A1 A2 o0 o1 o2 → oC.data = .cell cv → OffH H C I A0 → OffH H C I A1 → OffH H C I A2 → Fr h₀ env.locals h (mapH y (.str (X i) tx) xs u m₀) → AllObj ws (fun its => News h₀ env.locals h (its ++ (A0, o0) :: (A1, o1) :: (A2, o2) :: (H, wsN hv hc) :: (C, oC) :: base) →
      wpAny (model prog w) A (assign (.Name x px) env (.int (a₀ + (i : Int)) t)) (fun _ s₂ => wpAny (model prog w) A (execs body env) (UnrPostW h₀ env.locals { s with heap := h, toks := tk } its (fun m' n' => SubL [] n' ∧ ∃ n₁, SubL n₁ n' ∧ TurnH y xs H C I base (X (i + 1)) (R (i + 1)) m₀ m' n₁) Q) E s₂) E { s with heap := h, toks := tk }))
    (done : ∀ u t hv hc A0 A1 A2 o0 o1 o2 oC cv h tk, R n hv A0 A1 A2 o0 o1 o2 → oC.data = .cell cv → Fr h₀ env.locals h (mapH y (.str (X n) t) xs u m₀) → News h₀ env.locals h ((A0, o0) :: (A1, o1) :: (A2, o2) :: (H, wsN hv hc) :: (C, oC) :: base) → Q .next { s with heap := h, toks := tk }) :
    ItemsRest prog w A E h₀ env (.Name x px) body Q s ws [] (rangeItems a₀ n) m₀ news := by
  have hm : m₀ = mapH y (.str (X 0) t₀) xs m₀ m₀ := funext fun z => by
    unfold mapH
    rw [dirt_at]
    by_cases q : z = y
    · rw [if_pos q, q, hy]
    · rw [if_neg q]; split <;> rfl
  refine ItemsRest.inv (fun i m' n' => TurnH y xs H C I base (X i) (R i) m₀ m' n') (xs := rangeItems a₀ n) ?_ ?_ _ 0 m₀ ((Z, oZ) :: (Z, oZ) :: (Z, oZ) :: (H, wsN [] hc₀) :: (C, oC₀) :: base) news rfl (Nat.zero_le _) ⟨m₀, t₀, [], hc₀, Z, Z, Z, oZ, oZ, oZ, oC₀, cv₀, h0, hC₀, oz, oz, oz, hm, rfl⟩ ⟨hZ, hZ, hZ, hH, hC, hb⟩
  · rintro i a m nn v h tk hx ⟨u, tx, hv, hc, A0, A1, A2, o0, o1, o2, oC, cv, hR, hcv, z0, z1, z2, rfl, rfl⟩ hav F
    unfold rangeItems at hx
    rw [List.getElem?_map] at hx
    cases q : (List.range n)[i]? with
    | none => rw [q] at hx; cases hx
    | some z =>
      rw [q] at hx
      obtain ⟨hz, e⟩ := List.getElem?_eq_some_iff.mp q
      rw [List.getElem_range] at e
      subst e
      have e := Option.some.inj hx
      subst e
      obtain ⟨t, rfl⟩ := hav
      exact turn i t u tx hv hc A0 A1 A2 o0 o1 o2 oC cv h tk (by simpa using hz) hR hcv z0 z1 z2 F
  · rintro m nn h tk ⟨u, tx, hv, hc, A0, A1, A2, o0, o1, o2, oC, cv, hR, hcv, z0, z1, z2, rfl, rfl⟩ F N
    have e : (rangeItems a₀ n).length = n := by simp [rangeItems]
    rw [e] at hR F
    exact done u tx hv hc A0 A1 A2 o0 o1 o2 oC cv h tk hR hcv F N
theorem ItemsRest.home {x : Str} {px : Pos} {I : Addr} {cls : String} {p1 p2 d1 d2 d3 d4 c1 c2 c3 : Addr × Obj} {a₀ : Int} {n : Nat} {m₀ : Str → Option Value} {hc₀ : Nat} {oC₀ oZ oH : Obj} {cv₀ : Option Value} {t₀ : Tok} {H C Z : Addr} (y : Str) (xs : List Str) (X : Nat → Str) (R : Nat → List Value → Addr → Addr → Addr → Obj → Obj → Obj → Prop)
    (hC₀ : oC₀.data = .cell cv₀) (hH : oH = wsN [] hc₀) (h0 : R 0 [] Z Z Z oZ oZ oZ) (oz : OffH H C I Z) (hy : m₀ y = some (.str (X 0) t₀))
    (turn : ∀ i t u tx hv hc A0 A1 A2 o0 o1 o2 oC cv h tk, i < n → R i hv A0 A1 A2 o0 o1 o2 → oC.data = .cell cv → OffH H C I A0 → OffH H C I A1 → OffH H C I A2 → Fr h₀ env.locals h (mapH y (.str (X i) tx) xs u m₀) → AllObj [(I, cls)] (fun its => News h₀ env.locals h (its ++ (A0, o0) :: (A1, o1) :: (A2, o2) :: (H, wsN hv hc) :: (C, oC) :: [p1, p2, c1, c2, c3, (Z, oZ)]) →
      wpAny (model prog w) A (assign (.Name x px) env (.int (a₀ + (i : Int)) t)) (fun _ s₂ => wpAny (model prog w) A (execs body env) (UnrPostW h₀ env.locals { s with heap := h, toks := tk } its (fun m' n' => SubL [] n' ∧ ∃ n₁, SubL n₁ n' ∧ TurnH y xs H C I [p1, p2, c1, c2, c3, (Z, oZ)] (X (i + 1)) (R (i + 1)) m₀ m' n₁) Q) E s₂) E { s with heap := h, toks := tk }))
    (done : ∀ u t hv hc A0 A1 A2 o0 o1 o2 oC cv h tk, R n hv A0 A1 A2 o0 o1 o2 → oC.data = .cell cv → Fr h₀ env.locals h (mapH y (.str (X n) t) xs u m₀) → News h₀ env.locals h ((A0, o0) :: (A1, o1) :: (A2, o2) :: (H, wsN hv hc) :: (C, oC) :: [p1, p2, c1, c2, c3, (Z, oZ)]) → Q .next { s with heap := h, toks := tk }) :
    ItemsRest prog w A E h₀ env (.Name x px) body Q s [(I, cls)] [] (rangeItems a₀ n) m₀ [(H, oH), p1, p2, d1, d2, d3, d4, (C, oC₀), c1, c2, c3, (Z, oZ)] := by
  subst hH
  exact ItemsRest.invH y xs H C I Z [p1, p2, c1, c2, c3, (Z, oZ)] X R hC₀ (by repeat (first | exact List.Mem.head _ | apply List.Mem.tail)) (by repeat (first | exact List.Mem.head _ | apply List.Mem.tail)) (by repeat (first | exact List.Mem.head _ | apply List.Mem.tail)) h0 ⟨(by repeat (first | exact List.Mem.head _ | apply List.Mem.tail)), (by repeat (first | exact List.Mem.head _ | apply List.Mem.tail)), (by repeat (first | exact List.Mem.head _ | apply List.Mem.tail)), (by repeat (first | exact List.Mem.head _ | apply List.Mem.tail)), (by repeat (first | exact List.Mem.head _ | apply List.Mem.tail)), (by repeat (first | exact List.Mem.head _ | apply List.Mem.tail)), trivial⟩ oz hy turn done
theorem UnrEndW.introH {L : Addr} {its base all : List (Addr × Obj)} {s₁ : Shared} {h' : Heap} {tk : Nat} {m₀ m' : Str → Option Value} {y : Str} {xs : List Str} {H C I : Addr} {X : Str} {t : Tok} {hv : List Value} {hc : Nat} {A0 A1 A2 : Addr} {o0 o1 o2 oC : Obj} {cv : Option Value} {R : List Value → Addr → Addr → Addr → Obj → Obj → Obj → Prop} (F : Fr h₀ L h' m') (N : News h₀ L h' all)
    (hcv : oC.data = .cell cv) (m0 : (A0, o0) ∈ all) (m1 : (A1, o1) ∈ all) (m2 : (A2, o2) ∈ all) (mH : (H, wsN hv hc) ∈ all) (mC : (C, oC) ∈ all) (hR : R hv A0 A1 A2 o0 o1 o2) (hI : SubL its all) (hb : SubL base all) (z0 : OffH H C I A0) (z1 : OffH H C I A1) (z2 : OffH H C I A2)
    (off : OffW its ((A0, o0) :: (A1, o1) :: (A2, o2) :: (H, wsN hv hc) :: (C, oC) :: base)) (hy : m' y = some (.str X t)) (hm : ∀ z, z ≠ y → z ∉ xs → m' z = m₀ z) :
    UnrEndW h₀ L s₁ its (fun m' n' => SubL [] n' ∧ ∃ n₁, SubL n₁ n' ∧ TurnH y xs H C I base X R m₀ m' n₁) { s₁ with heap := h', toks := tk } := by
  have e : m' = mapH y (.str X t) xs m' m₀ := funext fun z => by
    unfold mapH
    rw [dirt_at]
    by_cases q : z = y
    · rw [if_pos q, q, hy]
    · rw [if_neg q]
      by_cases q2 : z ∈ xs
      · rw [if_pos q2]
      · rw [if_neg q2]; exact hm z q q2
  exact UnrEndW.intro F N ((A0, o0) :: (A1, o1) :: (A2, o2) :: (H, wsN hv hc) :: (C, oC) :: base) hI ⟨m0, m1, m2, mH, mC, hb⟩ off ⟨trivial, _, SubL.of fun p hp => hp, m', t, hv, hc, A0, A1, A2, o0, o1, o2, oC, cv, hR, hcv, z0, z1, z2, e, rfl⟩
theorem nw_int (p k : Nat) : ((nw p k : Nat) : Int) = (p : Int) + (k : Int) * min 1 (p : Int) := by
  unfold nw
  split
  · rename_i h; subst h; rw [show min 1 (((0 : Nat)) : Int) = 0 by omega]; simp
  · rw [show min 1 (p : Int) = 1 by omega]; simp
end
theorem nw_mono (a b i : Nat) : decide (nw a i ≤ nw b i) = decide (a ≤ b) := by
  apply decide_eq_decide.mpr
  unfold nw
  split <;> split <;> omega
theorem tk3_nw (a b c i : Nat) (x y : Int) : tk3 (nw a i) (nw b i) (nw c i) x y = tk3 a b c x y := by
  unfold tk3 pick3
  split <;> (try split) <;> (try split) <;> (try split) <;> exact nw_mono _ _ _
theorem sixL_nw (a b c k : Nat) : ∀ i, sixL (nw a k) (nw b k) (nw c k) i = sixL a b c i
  | 0 => rfl
  | i + 1 => by
    unfold sixL sixCond
    rw [sixL_nw a b c k i]
    simp only [tk3_nw]
end
section
section
variable {prog : Program} {w : World} {A : Around} {E : Value → Shared → Prop} {s : Shared} {h₀ : Heap} {L : Addr} {m : Str → Option Value} {env : Env}
/-- a name given a comprehension over a ledger list -/
theorem assign_P {elt iter : Expr} {x y : Str} {px py : Pos} {scope : Scope} {cl : List (Str × Addr)} {pos spos : Pos} {Q : Flow → Shared → Prop} (F₀ : Fr h₀ L s.heap m) (hLe : env.locals = L)
    (hsw : swapsWith (.ListComp elt [⟨.Name x px, iter, [], 0⟩] scope pos) (some (.Name y py)) spos.line env = pure true)
    (hclos : closureFor scope env = pure cl) (hcell : ∀ z ∈ scope.names, z.2 ≠ .cell) (hkind : scope.kind = .function)
    (hnames : ∀ z ∈ scope.names, z.2 = .local → scope.names.lookup z.1 = some .local) (hx : scope.names.lookup x = some .local)
    (hy : env.kindOf y = some .local) (hp : (env.scope.kind == .class || (env.scope.kind == .module && env.locals != env.globals)) = false)
    (h : wpAny (model prog w) A (eval iter env) (CSrcP prog w A h₀ L m env elt x scope cl (fun s₂ => LCg.FinA h₀ L m s₂ y Q)) E s)
    (hs : ∀ x, foldedSetIterable iter env x = pure x := by intro _; rfl) :
    wpAny (model prog w) A (exec (.Assign [.Name y py] (.ListComp elt [⟨.Name x px, iter, [], 0⟩] scope pos) spos) env) Q E s := by
  subst hLe
  rw [exec_Assign_Name_used _ _ _ _ hsw]
  refine wpAny_bind (wpAny_standAt (wpAny_bind ?_))
  show wpAny _ A (do let _ ← comprehension (.ListComp elt [⟨.Name x px, iter, [], 0⟩] scope pos) scope env _ (newList []) false (eval iter env) (some (assign (.Name y py) env))) _ _ s
  refine wpAny_bind (wpAny_mono (wpAny_comprehension_free (use := some (assign (.Name y py) env)) (Q := fun _ s' => Q .next s') rfl hs hclos hkind hnames
    (wpAny_mono h (fun xv s₁ h₁ => ?_) fun _ _ e => e)) (fun _ s' hq => wpAny_pure (wpAny_pure hq)) fun _ _ e => e)
  obtain ⟨ax, its, n, news, rfl, hh, F, N, hm, hsz, R⟩ := h₁
  have hlo : ∀ h : Heap, h.get? ax = some (listOf its n) → h.IsList ax its := fun h e => ⟨_, e, rfl, n, rfl⟩
  have hl := hlo _ (N _ hm).1
  have hlt : ax < s₁.heap.objs.size := Heap.lt_size (N _ hm).1
  refine wpAny_pyIter_list hl ?_
  have up : ∀ b o, s₁.heap.get? b = some o → (s₁.heap.push { cls := .type "list_iterator", data := .fields #[.ref ax, .int 0 0] }).get? b = some o := fun b o e => Heap.get?_push_of_some _ e
  refine block_P hh hsz ⟨_, Heap.get?_push_size _ rfl, rfl, rfl⟩ (Nat.ne_of_lt hlt) hlo hm hcell hkind hx (F.keeps up) (N.grown up) (Nat.ne_of_lt F.ns.lt) (next_is_new F) (fun p hp => Nat.ne_of_lt (Heap.lt_size (N p hp).1)) (R _ ⟨_, rfl⟩) ?_
  intro D C h' tk m' ys F' N' o1 hn hC₀ hCL hCD offC fin
  show wpAny _ A (assign (.Name y py) env (.ref D)) _ _ _
  refine wpAny_assign_Name (wpAny_storeName_local hy F'.ns (fun h₂ hn₂ hs₂ => ?_) hp)
  have hL₀ : h₀.get? env.locals = none := Heap.get?_none_of_le F'.above
  have F₂ : Fr h₀ env.locals h₂ (fun z => if z = y then some (.ref D) else m z) := ⟨hn₂, fun b o e => hs₂.extBut b o (fun q => by rw [q, hL₀] at e; cases e) (F'.keep b o e), F'.above⟩
  refine ⟨m', hn.sameBut hs₂ hCL, fun h'' hs'' => fin D h'' _ (F₂.change hs'' hCL hC₀) (fun p hp => ?_) o1⟩
  have z : h₂.get? p.1 = some p.2 := hs₂.extBut _ _ (N' p hp).2.1 (N' p hp).1
  refine ⟨hs''.extBut _ _ ?_ z, (N' p hp).2⟩
  rcases List.mem_cons.mp hp with rfl | hp
  · exact Ne.symm hCD
  · exact offC p hp
end
end
section
theorem now_yes {n i : Nat} {t : Tok} (h : 0 < (n : Int)) : ∃ t', Value.int ((n : Int) + (1 + (i : Int))) t = .int ((nw n (i + 1) : Nat) : Int) t' := by
  refine ⟨t, congrArg (fun z => Value.int z t) ?_⟩
  show _ = ((nw n (i + 1) : Nat) : Int)
  unfold nw
  rw [if_neg (by omega)]
  omega
theorem now_no {n i : Nat} {t : Tok} (h : ¬ 0 < (n : Int)) : ∃ t', Value.int 0 t = .int ((nw n (i + 1) : Nat) : Int) t' := by
  refine ⟨t, congrArg (fun z => Value.int z t) ?_⟩
  show _ = ((nw n (i + 1) : Nat) : Int)
  unfold nw
  rw [if_pos (by omega)]
  rfl
noncomputable def rowsS (a b c : Nat) : Str := mkS ((List.replicate a 46 ++ [97, 13, 10]) ++ (List.replicate b 46 ++ [97, 13, 10]) ++ (List.replicate c 46 ++ [97, 13, 10]))
theorem join_rows (a b c : Nat) : Txt.join (Str.ofString "") [rowE a, rowE b, rowE c] = rowsS a b c := join_mk3 _ _ _
theorem rowsS_len {a b c : Nat} (ha : a ≤ 12) (hb : b ≤ 12) (hc : c ≤ 12) : (rowsS a b c).cps.size ≤ 100 := by
  unfold rowsS mkS
  simp
  omega
theorem text_is (K P Q R : Nat) {i : Nat} (hi : i < 3) : Str.ofString "a\r\n" ++ rowsS (nw P (i + 1)) (nw Q (i + 1)) (nw R (i + 1)) = TX K P Q R (i + 1) := by
  rw [lit_ae, TX_succ _ _ _ _ hi]
  unfold rowsS
  rw [mkS_app]
  unfold textL rowL mkS
  simp
theorem ae_len {a b c : Nat} (ha : a ≤ 12) (hb : b ≤ 12) (hc : c ≤ 12) : (Str.ofString "a\r\n").length + (rowsS a b c).length ≤ 1000 := by
  have := rowsS_len ha hb hc
  rw [lit_ae]
  show (mkS [97, 13, 10]).cps.size + (rowsS a b c).cps.size ≤ 1000
  have e : (mkS [97, 13, 10]).cps.size = 3 := rfl
  omega
end
section
open Builtin Builtin.Str in
/-- where the line ends lie -/
noncomputable def occL : List Nat → Nat → List Nat
  | [], _ => []
  | c :: r, i => (if c = 13 ∧ r.head? = some 10 then [i] else []) ++ occL r (i + 1)
noncomputable def crS : Str := mkS [13, 10]
theorem lit_cr : Str.ofString "\r\n" = crS := by decide +kernel
theorem subAt_mid (pre rest : List Nat) : Builtin.Str.subAt (mkS (pre ++ rest)) crS pre.length = true ↔ rest.take 2 = [13, 10] := by
  unfold Builtin.Str.subAt crS mkS
  rw [beq_iff_eq, ← Array.toList_inj]
  simp [Str.length, Array.toList_extract, List.extract]
theorem occ_go (limit : Nat) : ∀ (rest pre : List Nat) (acc : Array Nat) (free hi : Nat), hi = (pre ++ rest).length → acc.size + rest.length < limit → (free ≤ pre.length ∨ (free = pre.length + 1 ∧ rest.head? = some 10)) →
    (forIn (List.range' pre.length (rest.length + 1)) (acc, free) (StrLaws.occBody (mkS (pre ++ rest)) crS hi limit)).run.fst.toList = acc.toList ++ occL rest pre.length := by
  intro rest
  induction rest with
  | nil =>
    intro pre acc free hi hh hl hf
    rw [List.length_nil, List.range'_succ, List.forIn_cons]
    unfold StrLaws.occBody
    rw [if_neg]
    · simp [occL]
    · rintro ⟨-, h⟩
      rw [subAt_mid] at h
      simp at h
  | cons c r ih =>
    intro pre acc free hi hh hl hf
    rw [List.length_cons, List.range'_succ, List.forIn_cons]
    have e : pre ++ c :: r = (pre ++ [c]) ++ r := by simp
    have el : (pre ++ [c]).length = pre.length + 1 := by simp
    have ih1 := ih (pre ++ [c])
    rw [el, ← e] at ih1
    by_cases hc : c = 13 ∧ r.head? = some 10
    · have hs : Builtin.Str.subAt (mkS (pre ++ c :: r)) crS pre.length = true := by
        rw [subAt_mid]
        obtain ⟨rfl, h2⟩ := hc
        cases r with
        | nil => simp at h2
        | cons d r => simp at h2; subst h2; rfl
      have hfree : free ≤ pre.length := by
        rcases hf with hf | ⟨-, h⟩
        · exact hf
        · obtain ⟨rfl, -⟩ := hc; simp at h
      have hr : 1 ≤ r.length := by
        cases r with
        | nil => simp at hc
        | cons d r => simp
      have h3 : crS.length = 2 := rfl
      have hb : StrLaws.occBody (mkS (pre ++ c :: r)) crS hi limit pre.length (acc, free) = pure (ForInStep.yield (acc.push pre.length, pre.length + 2)) := by
        unfold StrLaws.occBody
        rw [if_pos ⟨⟨⟨by simp at hl ⊢; omega, hfree⟩, by rw [h3, hh]; simp; omega⟩, hs⟩, h3]
      rw [hb]
      have := ih1 (acc.push pre.length) (pre.length + 2) hi hh (by simp at hl ⊢; omega) (.inr ⟨rfl, hc.2⟩)
      simpa [occL, hc] using this
    · have hb : StrLaws.occBody (mkS (pre ++ c :: r)) crS hi limit pre.length (acc, free) = pure (ForInStep.yield (acc, free)) := by
        unfold StrLaws.occBody
        rw [if_neg]
        rintro ⟨-, h⟩
        rw [subAt_mid] at h
        refine hc ?_
        cases r with
        | nil => simp at h
        | cons d r => simp at h; exact ⟨h.1, by simp [h.2]⟩
      rw [hb]
      have := ih1 acc free hi hh (by simp at hl ⊢; omega) (.inl (by rcases hf with hf | ⟨hf, -⟩ <;> omega))
      simpa [occL, hc] using this
theorem occL_dots (r : List Nat) : ∀ (n i : Nat), occL (List.replicate n 46 ++ r) i = occL r (i + n)
  | 0, i => by simp
  | n + 1, i => by
    rw [List.replicate_succ, List.cons_append]
    rw [show ∀ l : List Nat, occL (46 :: l) i = occL l (i + 1) from fun l => by simp [occL], occL_dots r n, show i + 1 + n = i + (n + 1) by omega]
theorem occL_end (r : List Nat) (i : Nat) : occL (97 :: 13 :: 10 :: r) i = (i + 1) :: occL r (i + 3) := by
  simp [occL]
theorem occ_text (a b c : Nat) : occL (textL a b c) 0 = [1, a + 4, a + b + 7, a + b + c + 10] := by
  unfold textL rowL
  simp only [List.append_assoc, List.cons_append, List.nil_append, List.singleton_append]
  rw [occL_end, occL_dots, occL_end, occL_dots, occL_end, occL_dots, occL_end]
  simp [occL]
  omega
theorem sub_mid (pre x post : List Nat) : Builtin.Str.strSub (mkS (pre ++ (x ++ post))) pre.length (pre.length + x.length) = mkS x := by
  refine Str.ext' ?_
  unfold Builtin.Str.strSub mkS
  rw [← Array.toList_inj]
  simp [List.extract]
theorem sub_eq {l pre x post : List Nat} {i j : Nat} (e : l = pre ++ (x ++ post)) (hi : i = pre.length) (hj : j = pre.length + x.length) : Builtin.Str.strSub (mkS l) i j = mkS x := by
  subst e hi hj
  exact sub_mid pre x post
theorem occ_all (l : List Nat) : Builtin.Str.occurrences (mkS l) crS 0 (mkS l).length ((mkS l).length + 1) = occL l 0 := by
  rw [StrLaws.occ_eq]
  have hl : (mkS l).length = l.length := by simp [mkS, Str.length]
  rw [hl]
  have := occ_go (l.length + 1) l [] #[] 0 l.length rfl (by simp) (.inl (Nat.le_refl _))
  simpa using this
theorem split_text (a b c : Nat) : Txt.split (mkS (textL a b c)) (Str.ofString "\r\n") = [mkS [97], rowS a, rowS b, rowS c, mkS []] := by
  rw [lit_cr]
  have hl : (mkS (textL a b c)).length = a + b + c + 12 := by simp [mkS, Str.length, textL, rowL]; omega
  have hk : Builtin.Str.strKind (mkS (textL a b c)) = 1 := by
    unfold Builtin.Str.strKind
    rw [if_pos]
    simp [mkS, textL, rowL]
  have hk2 : Builtin.Str.strKind crS = 1 := by decide +kernel
  have h3 : crS.length = 2 := rfl
  unfold Txt.split
  rw [if_neg (by rw [hl, hk, hk2, h3]; simp), occ_all, occ_text, if_neg (by simp), h3]
  unfold Builtin.Str.partsBetween
  rw [hl]
  show [Builtin.Str.strSub _ 0 1, Builtin.Str.strSub _ (1 + 2) (a + 4), Builtin.Str.strSub _ (a + 4 + 2) (a + b + 7), Builtin.Str.strSub _ (a + b + 7 + 2) (a + b + c + 10), Builtin.Str.strSub _ (a + b + c + 10 + 2) (a + b + c + 12)] = _
  rw [sub_eq (i := 0) (j := 1) (pre := []) (x := [97]) (post := [13, 10] ++ (rowL a ++ [13, 10]) ++ (rowL b ++ [13, 10]) ++ (rowL c ++ [13, 10])) (by simp [textL]) rfl rfl,
    sub_eq (i := 1 + 2) (j := a + 4) (pre := [97, 13, 10]) (x := rowL a) (post := [13, 10] ++ (rowL b ++ [13, 10]) ++ (rowL c ++ [13, 10])) (by simp [textL]) rfl (by simp [rowL] <;> omega),
    sub_eq (i := a + 4 + 2) (j := a + b + 7) (pre := [97, 13, 10] ++ (rowL a ++ [13, 10])) (x := rowL b) (post := [13, 10] ++ (rowL c ++ [13, 10])) (by simp [textL]) (by simp [rowL] <;> omega) (by simp [rowL] <;> omega),
    sub_eq (i := a + b + 7 + 2) (j := a + b + c + 10) (pre := [97, 13, 10] ++ (rowL a ++ [13, 10]) ++ (rowL b ++ [13, 10])) (x := rowL c) (post := [13, 10]) (by simp [textL]) (by simp [rowL] <;> omega) (by simp [rowL] <;> omega),
    sub_eq (i := a + b + c + 10 + 2) (j := a + b + c + 12) (pre := textL a b c) (x := []) (post := []) (by simp) (by simp [textL, rowL]; omega) (by simp [textL, rowL]; omega)]
  rfl
end
section
theorem shape1 {a : Str} {l : List Str} : ∀ {ps : List (Str × Tok)}, ps.map (·.1) = a :: l → ∃ t r, ps = (a, t) :: r ∧ r.map (·.1) = l
  | [], h => by cases h
  | p :: r, h => ⟨p.2, r, by have e := (List.cons.inj h).1; subst e; rfl, (List.cons.inj h).2⟩
theorem five_shape {a b c d e : Str} {ps : List (Str × Tok)} (h : ps.map (·.1) = [a, b, c, d, e]) : ∃ t1 t2 t3 t4 t5, ps = [(a, t1), (b, t2), (c, t3), (d, t4), (e, t5)] := by
  obtain ⟨t1, r1, rfl, h1⟩ := shape1 h
  obtain ⟨t2, r2, rfl, h2⟩ := shape1 h1
  obtain ⟨t3, r3, rfl, h3⟩ := shape1 h2
  obtain ⟨t4, r4, rfl, h4⟩ := shape1 h3
  obtain ⟨t5, r5, rfl, h5⟩ := shape1 h4
  obtain rfl := List.map_eq_nil_iff.mp h5
  exact ⟨t1, t2, t3, t4, t5, rfl⟩
section
variable {prog : Program} {w : World} {A : Around} {E : Value → Shared → Prop} {s : Shared} {Q : Value → Shared → Prop} {h₀ : Heap} {L : Addr} {m : Str → Option Value} {news : List (Addr × Obj)} {x y : Str} {t u : Tok}
theorem split5 {a b c d e : Str} (q : Txt.split x y = [a, b, c, d, e]) (hF : Fr h₀ L s.heap m) (hN : News h₀ L s.heap news) (hy : (y.length == 0) = false) (hsz : x.length + 2 ≤ sizeLine)
    (h : ∀ D t1 t2 t3 t4 t5 h' k, Fr h₀ L h' m → News h₀ L h' ((D, listOf #[.str a t1, .str b t2, .str c t3, .str d t4, .str e t5] 0) :: news) → LCg.Off1 D news → Q (.ref D) { s with heap := h', toks := k }) :
    wpAny (model prog w) A (call (.builtin "str.split") [.str x t, .str y u]) Q E s :=
  split_r q hF hN hy hsz fun D ps h' k hps F N o => by
    obtain ⟨t1, t2, t3, t4, t5, rfl⟩ := five_shape hps
    exact h D t1 t2 t3 t4 t5 h' k F N o
end
section
variable {h h' h₀ : Heap} {L : Addr} {m : Str → Option Value} {news : List (Addr × Obj)}
theorem news_adds (F : Fr h₀ L h m) (k : Keeps h h') (N : News h₀ L h news) (l : List (Addr × Obj)) (hl : ∀ p ∈ l, h.get? p.1 = none ∧ h'.get? p.1 = some p.2) : News h₀ L h' (l ++ news) := fun p hp => by
  rcases List.mem_append.mp hp with hp | hp
  · exact news_add F N k (hl p hp).1 (hl p hp).2 p (.head _)
  · exact ⟨k _ _ (N p hp).1, (N p hp).2⟩
end
section
variable {w : World} {mean : ExcName → Option Value} {mg mb : Str → Option Value} {f : Addr} {vs : List Value} {own news : List (Addr × Obj)} {need : Nat}
  {dp un : Nat} {gd : Option (List Code)} {cn : Str} {cs : Scope} {a : Addr} {ccd : Value} {cl : List (Str × Addr)} {outer : List Env} {A₀ : Around} {base h₀ : Heap} {L : Addr} {m : Str → Option Value} {s : Shared} {Q E : Value → Shared → Prop}
theorem use_takes {p q r : Nat} (C : Ctr w mean mg mb f vs own need (PTakes p q r)) (B : Below A₀ base outer h₀) (F : Fr h₀ L s.heap m) (X : (hd.heap_39 w.params).In h₀) (N : News h₀ L s.heap news)
    (T : Top hd.view_39 (looseW hd.view_39 [Str.ofString "_twin_re_1", Str.ofString "_twin_re_2"]) mean mg mb h₀) (hk : cs.kind = .function) (hs : ∀ p ∈ own, p ∈ news) (hd' : dp + need < recursionLimit) (hu : un + 100 * need < cLine)
    (h : ∀ D r0 r1 r2 h' tk', Fr h₀ L h' m → News h₀ L h' ((D, LCg.lst [.ref r0, .ref r1, .ref r2]) :: (r0, bl3 p q r p) :: (r1, bl3 p q r q) :: (r2, bl3 p q r r) :: news) → LCg.Off1 D news → LCg.Off1 r0 news → LCg.Off1 r1 news → LCg.Off1 r2 news →
      @Ne Nat r0 D → @Ne Nat r1 D → @Ne Nat r2 D → @Ne Nat r0 r1 → @Ne Nat r0 r2 → @Ne Nat r1 r2 → Q (.ref D) { s with heap := h', toks := tk' }) :
    wpAny (model Challenge.rw_pe0121_01.row.prog w) (ktrTop dp un gd cn cs L a ccd cl outer) (call (.ref f) vs) Q E s :=
  use_any C B F X N T hk hs hd' hu fun v h' tk' k pz F' _ => by
    obtain ⟨D, r0, r1, r2, e, n, n0, n1, n2, hne, o, o0, o1, o2⟩ := pz
    subst e
    refine h D r0 r1 r2 h' tk' F' ?_ (off_add N n) (off_add N n0) (off_add N n1) (off_add N n2) hne.1 hne.2.1 hne.2.2.1 hne.2.2.2.1 hne.2.2.2.2.1 hne.2.2.2.2.2
    refine news_adds F k N [(D, LCg.lst [.ref r0, .ref r1, .ref r2]), (r0, bl3 p q r p), (r1, bl3 p q r q), (r2, bl3 p q r r)] fun z hz => ?_
    simp only [List.mem_cons, List.not_mem_nil, or_false] at hz
    rcases hz with rfl | rfl | rfl | rfl
    · exact ⟨n, o⟩
    · exact ⟨n0, o0⟩
    · exact ⟨n1, o1⟩
    · exact ⟨n2, o2⟩
theorem use_six {ns : List Int} (C : Ctr w mean mg mb f vs own need (PSix ns)) (B : Below A₀ base outer h₀) (F : Fr h₀ L s.heap m) (X : (hd.heap_39 w.params).In h₀) (N : News h₀ L s.heap news)
    (T : Top hd.view_39 (looseW hd.view_39 [Str.ofString "_twin_re_1", Str.ofString "_twin_re_2"]) mean mg mb h₀) (hk : cs.kind = .function) (hs : ∀ p ∈ own, p ∈ news) (hd' : dp + need < recursionLimit) (hu : un + 100 * need < cLine)
    (h : ∀ D vs cap h' tk', IntVs vs ns → Fr h₀ L h' m → News h₀ L h' ((D, wsN vs cap) :: news) → LCg.Off1 D news → Q (.ref D) { s with heap := h', toks := tk' }) :
    wpAny (model Challenge.rw_pe0121_01.row.prog w) (ktrTop dp un gd cn cs L a ccd cl outer) (call (.ref f) vs) Q E s :=
  use_any C B F X N T hk hs hd' hu fun v h' tk' k ⟨D, ws, cap, e, n, o, hv⟩ F' _ => by
    subst e
    exact h D ws cap h' tk' hv F' (news_add F N k n o) (off_add N n)
end
/-- after a turn: the ledger stands, the names xs are forgotten -/
noncomputable def TurnA (xs : List Str) (base : List (Addr × Obj)) (m₀ m' : Str → Option Value) (n' : List (Addr × Obj)) : Prop := ∃ u, m' = dirt xs u m₀ ∧ n' = base
section
variable {prog : Program} {w : World} {A : Around} {E : Value → Shared → Prop} {s : Shared} {env : Env} {h₀ : Heap} {body : List Stmt} {Q : Flow → Shared → Prop}
theorem ItemsRest.invA {x : Str} {px : Pos} {ws : List (Addr × String)} {news : List (Addr × Obj)} {a₀ : Int} {n : Nat} {m₀ : Str → Option Value} (xs : List Str)
    (turn : ∀ (z : Int) t u h tk, a₀ ≤ z → z < a₀ + (n : Int) → Fr h₀ env.locals h (dirt xs u m₀) → AllObj ws (fun its => News h₀ env.locals h (its ++ news) →
      wpAny (model prog w) A (assign (.Name x px) env (.int z t)) (fun _ s₂ => wpAny (model prog w) A (execs body env) (UnrPostW h₀ env.locals { s with heap := h, toks := tk } its (fun m' n' => SubL [] n' ∧ ∃ n₁, SubL n₁ n' ∧ TurnA xs news m₀ m' n₁) Q) E s₂) E { s with heap := h, toks := tk }))
    (done : ∀ u h tk, Fr h₀ env.locals h (dirt xs u m₀) → News h₀ env.locals h news → Q .next { s with heap := h, toks := tk }) :
    ItemsRest prog w A E h₀ env (.Name x px) body Q s ws [] (rangeItems a₀ n) m₀ news := by
  obtain ⟨u₀, hu₀⟩ := dirt_of (xs := xs) (m := m₀) (m' := m₀) fun _ _ => rfl
  refine ItemsRest.inv (fun i m' n' => TurnA xs news m₀ m' n') (xs := rangeItems a₀ n) ?_ ?_ _ 0 m₀ news news rfl (Nat.zero_le _) ⟨u₀, hu₀, rfl⟩ (SubL.of fun p hp => hp)
  · rintro i a m nn v h tk hx ⟨u, rfl, rfl⟩ hav F
    unfold rangeItems at hx
    rw [List.getElem?_map] at hx
    cases q : (List.range n)[i]? with
    | none => rw [q] at hx; cases hx
    | some z =>
      rw [q] at hx
      obtain ⟨hz, e⟩ := List.getElem?_eq_some_iff.mp q
      rw [List.getElem_range] at e
      subst e
      have e := Option.some.inj hx
      subst e
      obtain ⟨t, rfl⟩ := hav
      exact turn _ t u h tk (Int.le_add_of_nonneg_right (Int.natCast_nonneg i)) (Int.add_lt_add_left (Int.ofNat_lt.mpr (by simpa using hz)) _) F
  · rintro m nn h tk ⟨u, rfl, rfl⟩ F N
    exact done u h tk F N
theorem UnrEndW.introA {L : Addr} {its base all : List (Addr × Obj)} {s₁ : Shared} {h' : Heap} {tk : Nat} {m₀ m' : Str → Option Value} {xs : List Str} (F : Fr h₀ L h' m') (N : News h₀ L h' all)
    (hI : SubL its all) (hb : SubL base all) (off : OffW its base) (hm : ∀ y, y ∉ xs → m' y = m₀ y) :
    UnrEndW h₀ L s₁ its (fun m' n' => SubL [] n' ∧ ∃ n₁, SubL n₁ n' ∧ TurnA xs base m₀ m' n₁) { s₁ with heap := h', toks := tk } := by
  obtain ⟨u, e⟩ := dirt_of hm
  exact UnrEndW.intro F N base hI hb off ⟨trivial, _, SubL.of fun p hp => hp, u, e, rfl⟩
end
theorem pick3_int (a b c : Int) (t u v : Tok) (x : Int) : pick3 (Value.int a t) (.int b u) (.int c v) x = .int (pick3 a b c x) (pick3 t u v x) := by unfold pick3; split <;> (try split) <;> rfl
theorem pick3_float (a b c : UInt64) (t u v : Tok) (x : Int) : pick3 (Value.float a t) (.float b u) (.float c v) x = .float (pick3 a b c x) (pick3 t u v x) := by unfold pick3; split <;> (try split) <;> rfl
theorem pick3_nat (a b c : Nat) (x : Int) : pick3 (a : Int) b c x = ((pick3 a b c x : Nat) : Int) := by unfold pick3; split <;> (try split) <;> rfl
/-- the order of the parts, told by the rows -/
theorem tk3_ge (a b c : Nat) (x y : Int) : tk3 a b c x y = decide (pick3 (a : Int) b c y ≤ pick3 (a : Int) b c x) := by
  unfold tk3
  rw [pick3_nat, pick3_nat]
  exact decide_eq_decide.mpr Int.ofNat_le.symm
section
variable {prog : Program} {w : World} {A : Around} {E : Value → Shared → Prop} {s : Shared} {Q : Value → Shared → Prop} {h₀ : Heap} {L : Addr} {m : Str → Option Value} {news : List (Addr × Obj)} {u : Tok} {value slice : PySem.Expr}
/-- now[x] -/
theorem item_now {l : Addr} {x : Int} {a b c : Int} {t1 t2 t3 : Tok} {o : Obj} (N : News h₀ L s.heap news) (hm : (l, o) ∈ news) (hc : o.cls = .type "list") (hd : ∃ n, o.data = .seq #[.int a t1, .int b t2, .int c t3] n) (h0 : 0 ≤ x) (h3 : x < 3) (h : ∀ t, Q (.int (pick3 a b c x) t) s)
    (hs : subscripted slice false (.ref l) (.int x u) = operate [.ref l, .int x u] (getItem (.ref l) (.int x u)) := by with_unfolding_all rfl) :
    wpAny (model prog w) A (subscriptTail value slice (.ref l) (.int x u)) Q E s := item3 N hm hc hd h0 h3 (by rw [pick3_int]; exact h _) hs
theorem item_tup3 {T : Addr} {x : Int} {a b c : UInt64} {t1 t2 t3 : Tok} (N : News h₀ L s.heap news) (hm : (T, tupO #[.float a t1, .float b t2, .float c t3]) ∈ news) (h0 : 0 ≤ x) (h3 : x < 3) (h : ∀ t, Q (.float (pick3 a b c x) t) s)
    (hs : subscripted slice false (.ref T) (.int x u) = operate [.ref T, .int x u] (getItem (.ref T) (.int x u)) := by with_unfolding_all rfl) :
    wpAny (model prog w) A (subscriptTail value slice (.ref T) (.int x u)) Q E s := by
  have ht := tupIs N hm
  have h' := h (pick3 t1 t2 t3 x)
  rw [← pick3_float] at h'
  have hx : x = 0 ∨ x = 1 ∨ x = 2 := by omega
  rcases hx with rfl | rfl | rfl
  · exact item_tupleT (j := 0) ht (by decide) (by decide) rfl rfl h' hs
  · exact item_tupleT (j := 1) ht (by decide) (by decide) rfl rfl h' hs
  · exact item_tupleT (j := 2) ht (by decide) (by decide) rfl rfl h' hs
end
theorem isNot_eq {M : Model} {A : Around} {E : Value → Shared → Prop} {s : Shared} {Q : Value → Shared → Prop} {a b : Bool} (e : a = b) (h : Q (.bool false) s) : wpAny M A (compareOp .IsNot (.bool a) (.bool b)) Q E s := by
  subst e; exact wpAny_isNot_self (by rfl) h
section
variable {prog : Program} {w : World} {A : Around} {E : Value → Shared → Prop} {s : Shared} {h₀ : Heap} {L : Addr} {m : Str → Option Value} {env : Env}
/-- a comprehension over range(3) that makes floats, its turns alike -/
theorem rng3 {elt : Expr} {x : Str} {scope : Scope} {cl : List (Str × Addr)} {Fin : List Value → List (Addr × Obj) → Prop} {news : List (Addr × Obj)} {L0 L1 L2 : UInt64} (V : Int → UInt64) (e0 : V 0 = L0) (e1 : V 1 = L1) (e2 : V 2 = L2)
    (turn : ∀ (n : Int) t I oI C oC D m₂ h tk ys (E' : Value → Shared → Prop), 0 ≤ n → n < 3 → LCg.NsObj oC m₂ → m₂ x = some (.int n t) → Fr h₀ L h m → News h₀ L h ((I, oI) :: (C, oC) :: (D, LCg.lst ys) :: news) →
      LCg.Off3 I C D news → ((@Ne Nat I C) ∧ (@Ne Nat I D) ∧ (@Ne Nat C D)) →
      wpAny (model prog w) A (eval elt (compEnvC scope cl C env)) (LCg.CompEnd h₀ L m { s with heap := h, toks := tk } I oI C oC D (LCg.lst ys) (fun _ => True) (fun y news' => news' = news ∧ ∃ t, y = .float (V n) t)) E' { s with heap := h, toks := tk })
    (fin : ∀ u0 u1 u2, Fin [.float L0 u0, .float L1 u1, .float L2 u2] news) :
    LCg.CompRest prog w A h₀ L m env elt x scope cl s (fun _ => True) (fun i v => ∃ t, v = .int (0 + (i : Int)) t) Fin 3 0 [] news := by
  subst e0 e1 e2
  have go : ∀ (n : Int), 0 ≤ n → n < 3 → ∀ (G : Value → List (Addr × Obj) → Prop), (∀ u, G (.float (V n) u) news) → ∀ v I oI C oC D m₂ h tk ys (E' : Value → Shared → Prop), (∃ t, v = .int n t) → LCg.NsObj oC m₂ → m₂ x = some v → Fr h₀ L h m → News h₀ L h ((I, oI) :: (C, oC) :: (D, LCg.lst ys) :: news) →
      LCg.Off3 I C D news → ((@Ne Nat I C) ∧ (@Ne Nat I D) ∧ (@Ne Nat C D)) →
      wpAny (model prog w) A (eval elt (compEnvC scope cl C env)) (LCg.CompEnd h₀ L m { s with heap := h, toks := tk } I oI C oC D (LCg.lst ys) (fun _ => True) G) E' { s with heap := h, toks := tk } := by
    rintro n n0 n3 G hG v I oI C oC D m₂ h tk ys E' ⟨t, rfl⟩ hC hx F N off ne
    exact wpAny_mono (turn n t I oI C oC D m₂ h tk ys E' n0 n3 hC hx F N off ne) (fun y s₄ ⟨h', tk', news', e, F, N, off, hS, q1, u, q2⟩ => ⟨h', tk', news', e, F, N, off, hS, by subst q1 q2; exact hG u⟩) fun _ _ e => e
  refine LCg.CompRest.succ fun v I oI C oC D m₂ h tk E' a1 a2 a3 a4 a5 a6 a7 => go 0 (by decide) (by decide) _ (fun u0 => ?_) v I oI C oC D m₂ h tk _ E' a1 a2 a3 a4 a5 a6 a7
  refine LCg.CompRest.succ fun v I oI C oC D m₂ h tk E' a1 a2 a3 a4 a5 a6 a7 => go 1 (by decide) (by decide) _ (fun u1 => ?_) v I oI C oC D m₂ h tk _ E' a1 a2 a3 a4 a5 a6 a7
  refine LCg.CompRest.succ fun v I oI C oC D m₂ h tk E' a1 a2 a3 a4 a5 a6 a7 => go 2 (by decide) (by decide) _ (fun u2 => ?_) v I oI C oC D m₂ h tk _ E' a1 a2 a3 a4 a5 a6 a7
  exact fin u0 u1 u2
theorem rngEnd {I C D : Addr} {s₁ : Shared} {oI oC oD : Obj} {news : List (Addr × Obj)} {V : UInt64} {t : Tok} {h' : Heap} {tk : Nat}
    (F : Fr h₀ L h' m) (N : News h₀ L h' ((I, oI) :: (C, oC) :: (D, oD) :: news)) (off : LCg.Off3 I C D news) :
    LCg.CompEnd h₀ L m s₁ I oI C oC D oD (fun _ => True) (fun y news' => news' = news ∧ ∃ t, y = .float V t) (.float V t) { s₁ with heap := h', toks := tk } :=
  LCg.CompEnd.intro F N news (fun _ hp => hp) off trivial ⟨rfl, t, rfl⟩
end
theorem nw_at (p i : Nat) : ((nw p (i + 1) : Nat) : Int) = (p : Int) + (1 + (i : Int)) * min 1 (p : Int) := by
  rw [nw_int, show ((i + 1 : Nat) : Int) = 1 + (i : Int) by omega]
theorem cat_1 : mkS [97] ++ Str.ofString "..." = mkS [97, 46, 46, 46] := by decide +kernel
theorem cat_2 : mkS [97, 46, 46, 46] ++ mkS [97] = mkS [97, 46, 46, 46, 97] := by decide +kernel
theorem cat_3 : Str.ofString "." ++ mkS [97] = mkS [46, 97] := by decide +kernel
theorem cat_4 : Str.ofString "..." ++ mkS [97] = mkS [46, 46, 46, 97] := by decide +kernel
theorem cat_5 : mkS [97] ++ Str.ofString "." = mkS [97, 46] := by decide +kernel
theorem le_16 {n : Nat} (h : n ≤ 12) : (n : Int) ≤ 16 := by omega
theorem are_go : ∀ ps : List (Int × Tok), PyProof.Rows.IntsAre (ps.map (fun p => .int p.1 p.2)) (ps.map (·.1))
  | [] => .nil
  | p :: r => .cons p.1 p.2 (are_go r)
theorem IntVs.are {vs : List Value} {ns : List Int} (h : IntVs vs ns) : PyProof.Rows.IntsAre vs ns := by
  obtain ⟨ps, rfl, rfl⟩ := h
  exact are_go ps
theorem eq_six {prog : Program} {w : World} {A : Around} {E : Value → Shared → Prop} {s : Shared} {Q : Value → Shared → Prop} {h₀ : Heap} {L : Addr} {news : List (Addr × Obj)} {a b : Addr} {vs us : List Value} {c d : Nat} {S : List Int} (N : News h₀ L s.heap news) (m1 : (a, wsN vs c) ∈ news) (m2 : (b, wsN us d) ∈ news) (i1 : IntVs vs S) (i2 : IntVs us S) (hu : A.units + 64 < cLine) (h : Q (.bool true) s) :
    wpAny (model prog w) A (compareOp .Eq (.ref a) (.ref b)) Q E s :=
  ke_eq_ints (wsN_is N m1) (wsN_is N m2) i1.are i2.are hu (by rw [decide_eq_true rfl]; exact h)
end
section
theorem ksetP56_34 : True := by
  k_with_none
  k_with "mine enter" => (refine' code_defP ?mkb ?mk1 ?mk2 ?mk3 ?mk4 ?mk5 ?mkA ?mkF ?mkK ?mk6 ?mk7 ?mk8 ?mk9 ?mkB ?_ ?mc2 ?mc3 ?mc4 ?mc5; (case mkb => assumption); (case mkA => exact rfl); (case mkF => exact rfl); (case mkK => assumption); (case mk1 => k_asm); (case mk2 => k_asm); (case mk3 => k_asm); (case mk4 => k_asm); (case mk5 => k_asm); (case mk6 => k_is); (case mk7 => k_is); (case mk8 => ktr_room); (case mk9 => exact BindsTo.of_eq rfl); (case mc5 => decide); (case mkB => exact locs rfl); (case mc2 => exact rfl); (case mc3 => exact rfl); (case mc4 => exact rfl); k_whole; intro g'w L'w h'w hH'w FG'w F'w N'w B'w X'w T'w; (try simp only [List.reverse_cons, List.reverse_nil, List.nil_append, List.cons_append, List.length_cons, List.length_nil]); (try dsimp only); (try k_lift B'w); (try k_fold); refine cut ?_; intro qq'w hq'w; refine letA ?_; intro A1'w)
  k_with "mine start" => (w_top off; dsimp only [Ctr]; k_fill; intros; refine wpAny_call ?_; k_dflt (k_extra "mine enter"))
  k_with "mine keeps" => (refine' keeps_of ?mq1 ?mq2 ?mq3 ?mq4 ?mq5; (case mq1 => with_reducible assumption); (case mq2 => with_reducible assumption); (case mq3 => with_reducible assumption); (case mq4 => with_reducible assumption); (case mq5 => lcg_sub))
  k_with "mine off" => (first | exact List.forall_mem_nil _ | (refine List.forall_mem_cons.mpr ⟨?ma, ?mb⟩; (case ma => k_ne); (case mb => k_extra "mine off")))
  k_with "mine fresh" => (refine' fresh_of ?mq1 ?mq2 ?mq3 ?mq4; (case mq1 => with_reducible assumption); (case mq2 => with_reducible assumption); (case mq3 => k_mem); (case mq4 => k_extra "mine off"))
  k_with "mine ret" => ((rename RetOf _ _ _ => hR'w); refine' RetOf.at hR'w ?mkk ?_; (case mkk => k_extra "mine keeps"))
  k_with "mine tup3" => (k_extra "mine ret"; refine' ⟨_, _, _, _, rfl, ?mkf, ?mkg, ?_⟩; (case mkg => exact News.get (by with_reducible assumption) (by k_mem)); (case mkf => k_extra "mine fresh"))
  k_with "mine:execs cons" => (k_here; first | (refine' execs_cutL ?mhs ?mF ?mN ?_; (case mhs => first | (dsimp only; exact rfl) | dsimp only | exact rfl); (case mF => k_asm); (case mN => k_asm); intro m1'w n1'w F1'w N1'w q'w hq'w; try dsimp only at F1'w N1'w) | (refine' execs_cut ?_; intro q'w hq'w))
  k_with "mine:execs cons" => (k_here; (with_reducible show wpAny _ _ _ _ _ (Shared.mk _ _ _ (_ + _) _)); refine' gen_toks ?mhX ?_; (case mhX => omega); intro tk'w htk'w)
  k_with "mine:execs nil" => (k_here; (with_reducible show wpAny _ _ _ _ _ (Shared.mk _ _ _ (_ + _) _)); refine' gen_toks ?mhX ?_; (case mhX => omega); intro tk'w htk'w)
  k_with "mine units" => ((have hcL9 := cLine_is); (try simp +zetaDelta only [units_in1, units_deeper, Around.mark_units, units_caller]); (try dsimp +zetaDelta only [ktrTop]); omega)
  k_with "mine step" => (first | (k_unfold; (try dsimp only)) | (k_end; wrow_close) | walk1 | (dsimp only; walk1) | (leave1; walk_say "STEP leave1"; try dsimp only))
  k_with "mine ne" => (first | with_reducible assumption | (refine Ne.symm ?_; with_reducible assumption) | (refine Nat.ne_of_lt ?_; with_reducible assumption) | (refine Nat.ne_of_gt ?_; with_reducible assumption) | (refine neN ?_; (try dsimp only); (try simp only [ne_eq]); omega))
  k_with "mine:Held" => (refine Held.go (by with_reducible assumption) ?_; try dsimp only)
  k_with "mine offs" => (k_dflt ((rename LCg.Off1 _ _ => hq'w); refine Off1c.of hq'w ?_; clear hq'w; (repeat intro o2'w); refine ⟨?_⟩))
  k_with "mine:FinE" => ((unfold LCg.FinE); intro D'w h'w tk'w F'w N'w o1'w; (try simp only [List.nil_append, List.cons_append] at N'w o1'w); k_extra "mine offs"; (try dsimp only))
  k_with "mine:CompRest" => (with_unfolding_all first
    | (refine LCg.CompRest.succ ?_; intro v'w I'w oI'w C'w oC'w D'w m'w h'w tk'w E'w hv'w hC'w hx'w F'w N'w off'w ne'w; (first | lcg_open hv'w | (obtain ⟨t9'w, hv9'w⟩ := hv'w; subst hv9'w)); refine cut ?_; intro q4'w hq4'w)
    | refine LCg.CompRest.zero ?_)
  k_with "mine:CompRestT" => (with_unfolding_all first
    | (refine LCt.CompRestT.succ ?_; intro v'w I'w oI'w C'w oC'w D'w m'w h'w tk'w E'w hv'w hC'w hx'w F'w N'w off'w ne'w; (first | lcg_open hv'w | (obtain ⟨t9'w, hv9'w⟩ := hv'w; subst hv9'w)))
    | refine LCt.CompRestT.zero ?_)
  k_with "mine:CompEnd" => (refine LCg.CompEnd.intro (by k_asm) (by k_asm) _ (fun _ hp => hp) (by with_reducible assumption) (by lcg_src) ?_)
  k_with "mine arith" => (first | exact Nat.succ_pos _ | with_reducible assumption | (with_reducible exact ar_r0 (by assumption)) | (with_reducible exact ar_r2 (by assumption) (by decide)) | (with_reducible exact ar_r1 (by assumption) (by decide)) | (with_reducible exact ar_absC (by assumption) (by decide)) | (with_reducible exact ar_abs (by assumption) (by assumption) (by decide)) | (with_reducible exact ar_absN (by assumption) (by decide)) | (with_reducible exact ar_absM) | (with_reducible exact ar_absL (by assumption) (by decide)) | (with_reducible exact ar_cle (by assumption) (by decide)) | (with_reducible exact Int.natCast_nonneg _) | (with_reducible exact ar_min0) | (with_reducible exact ar_min1 (by decide)) | (with_reducible exact ar_sc (by assumption) (by decide)) | (with_reducible exact Nat.le_trans (by assumption) (by decide)) | decide)
  k_with "mine mem" => (first | exact memk 0 rfl | exact memk 1 rfl | exact memk 2 rfl | exact memk 3 rfl | exact memk 4 rfl | exact memk 5 rfl | exact memk 6 rfl | exact memk 7 rfl | exact memk 8 rfl | exact memk 9 rfl | exact memk 10 rfl | exact memk 11 rfl | exact memk 12 rfl | exact memk 13 rfl | exact memk 14 rfl | exact memk 15 rfl | exact memk 16 rfl | exact memk 17 rfl | exact memk 18 rfl | exact memk 19 rfl)
  k_with "mine same" => ((repeat (rename (¬ _) ∧ _ => hz'w; have hz1'w := And.left hz'w; have hz2'w := And.right hz'w; clear hz'w)); (repeat (first | with_reducible rfl | (refine (if_neg (by assumption)).trans ?_))))
  k_with "mine use" => ((case mk1 => k_asm); (case mk2 => k_asm); (case mk3 => k_asm); (case mk4 => k_asm); (case mk5 => k_asm); (case mk6 => exact rfl); (case mk7 => lcg_sub); (case mk8 => ktr_room); (case mk9 => units_room))
  k_with "mine:subscriptTail Name Constant ref int" => (k_here; (with_reducible show wpAny _ _ (subscriptTail _ _ (Value.ref _) (Value.int _ _)) _ _ _); kim_at)
  k_with "mine:subscriptTail Name Constant ref int" => (k_here; (with_reducible show wpAny _ _ (subscriptTail _ _ (Value.ref _) (Value.int _ _)) _ _ _); (with_unfolding_all refine' item_litK ?mk1 ?mk2 ?mk3 ?mk4 ?_ ?mk6; (case mk1 => is_list); (case mk2 => decide); (case mk3 => decide); (case mk4 => rfl); (case mk6 => with_unfolding_all rfl); k_whole))
  k_with "mine:binaryOp Div int int" => (k_here; (with_reducible refine' divI_r ?me ?mk1 ?mk2 ?mk3 ?_); (case me => first | assumption | exact rfl); (case mk1 => k_dflt rfl); (case mk2 => first | decide | omega); (case mk3 => omega); intro t'w)
  k_with "mine:binaryOp Mult float int" => (k_here; (with_reducible refine' mulFI_r ?me ?mk3 ?_); (case me => first | assumption | exact rfl); (case mk3 => omega); intro t'w)
  k_with "mine:binaryOp Mult int float" => (k_here; (with_reducible refine' mulIF_r ?me ?mk3 ?_); (case me => first | assumption | exact rfl); (case mk3 => omega); intro t'w)
  k_with "mine:call builtin:round" => (k_here; (with_reducible show wpAny _ _ (call (Value.builtin "round") [Value.float _ _]) _ _ _); (with_reducible refine' round_r ?mhf ?me ?mkh ?_); (case mhf => assumption); (case me => first | assumption | exact rfl); (case mkh => k_dflt rfl); intro t'w)
  k_with "mine:call builtin:max" => (k_here; first
    | ((with_reducible show wpAny _ _ (call (Value.builtin "max") [Value.ref _]) _ _ _); (with_reducible refine' max_l3 ?me ?mkh ?mk1 ?mk2 ?mk3 ?_); (case mk1 => k_asm); (case mk2 => k_asm); (case mk3 => k_dflt k_mem); (case me => assumption); (case mkh => k_dflt rfl); intro h'w tk'w t'w F'w N'w; (try k_sweep))
    | ((with_reducible show wpAny _ _ (call (Value.builtin "max") [Value.int _ _, Value.int _ _]) _ _ _); (with_reducible refine' max2_r ?me ?mkh ?mk1 ?mk2 ?_); (case mk1 => k_asm); (case mk2 => k_asm); (case me => first | assumption | exact rfl); (case mkh => k_dflt rfl); intro h'w tk'w t'w F'w N'w; (try k_sweep)))
  k_with "mine:call builtin:min" => (k_here; first
    | ((with_reducible show wpAny _ _ (call (Value.builtin "min") [Value.ref _]) _ _ _); (with_reducible refine' min_l3 ?me ?mkh ?mk1 ?mk2 ?mk3 ?_); (case mk1 => k_asm); (case mk2 => k_asm); (case mk3 => k_dflt k_mem); (case me => assumption); (case mkh => k_dflt rfl); intro h'w tk'w t'w F'w N'w; (try k_sweep))
    | ((with_reducible show wpAny _ _ (call (Value.builtin "min") [Value.int _ _, Value.int _ _]) _ _ _); (with_reducible refine' min2_r ?me ?mkh ?mk1 ?mk2 ?_); (case mk1 => k_asm); (case mk2 => k_asm); (case me => first | assumption | exact rfl); (case mkh => k_dflt rfl); intro h'w tk'w t'w F'w N'w; (try k_sweep)))
  k_with "mine:ite" => (k_here; first
    | (with_reducible refine ite_neg (by first | assumption | exact Bool.eq_false_iff.mp (by assumption) | (simp only [decide_true, decide_false, Bool.not_true, Bool.not_false, eq_self, Bool.false_eq_true, not_false_eq_true]; done) | ((try simp only [beq_iff_eq, bne_iff_ne, decide_eq_true_eq, ne_eq, Bool.not_eq_true', decide_eq_false_iff_not, Int.not_lt, Int.not_le]); omega)) ?_)
    | (with_reducible refine ite_pos (by first | assumption | (simp only [decide_true, decide_false, Bool.not_true, Bool.not_false, eq_self, Bool.false_eq_true, not_false_eq_true]; done) | ((try simp only [beq_iff_eq, bne_iff_ne, decide_eq_true_eq, ne_eq, Bool.not_eq_true', decide_eq_false_iff_not, Int.not_lt, Int.not_le]); omega)) ?_))
  k_with "mine:compareOp NotIn" => (k_here; (with_reducible show wpAny _ _ (compareOp CmpOp.NotIn (Value.int _ _) (Value.ref _)) _ _ _); (with_reducible refine' notIn_range ?mk1 ?mk2 ?mk3 ?_); (case mk1 => k_dflt assumption); (case mk2 => omega); (case mk3 => omega))
  k_with "mine:compareOp NotIn int ref" => (walk_at "compareOp NotIn")
  k_with "mine:binaryOp FloorDiv int int" => (k_here; (with_reducible refine' fdiv_r ?me ?mk2 ?mk3 ?_); (case me => first | assumption | exact rfl); (case mk2 => first | decide | omega); (case mk3 => first | decide | omega); intro t'w)
  k_with "mine:binaryOp Mod int int" => (k_here; (with_reducible refine' fmod_r ?me ?mk2 ?_); (case me => first | assumption | exact rfl); (case mk2 => first | decide | omega); intro t'w)
  k_with "mine enterC" => (refine' code_defPC ?mk1 ?mk2 ?mk3 ?mk4 ?mk5 ?mkA ?mkF ?mkK ?mk6 ?mk7 ?mk8 ?mk9 ?mkB ?mkD ?_ ?mc2 ?mc3 ?mc4; (case mkA => exact rfl); (case mkF => exact rfl); (case mkK => assumption); (case mk1 => k_asm); (case mk2 => k_asm); (case mk3 => k_asm); (case mk4 => k_asm); (case mk5 => k_asm); (case mk6 => k_is); (case mk7 => k_is); (case mk8 => ktr_room); (case mk9 => exact BindsTo.of_eq rfl); (case mkB => exact rfl); (case mkD => decide +kernel); (case mc2 => exact rfl); (case mc3 => exact rfl); (case mc4 => exact rfl); k_whole; intro g'w L'w h'w tk'w cells'w hH'w FG'w F'w N'w Y'w B'w X'w T'w l1'w; (try k_lt l1'w); k_cells Y'w; (try simp only [List.cons_append, List.nil_append] at N'w); (try dsimp only); (try k_lift B'w); (try k_fold); refine cut ?_; intro qq'w hq'w; refine letA ?_; intro A1'w)
  k_with "mine startC" => (dsimp only [Ctr]; k_fill; intros; refine wpAny_call ?_; k_dflt (k_extra "mine enterC"))
  k_with "mine:CTup" => (k_here; k_dflt (refine CTup.at (by rfl) (by k_asm) (by k_asm) (by k_mem) (by exact Nat.le_of_ble_eq_true rfl) ?_; intro g'w; lcg_lit))
  k_with "mine:CTupT" => (k_here; k_dflt (refine CTupT.at (by rfl) (by k_asm) (by k_asm) (by k_mem) (by exact Nat.le_of_ble_eq_true rfl) ?_; intro g'w; lct_lit))
  k_with "mine:pyIter ref" => (k_here; (with_reducible show wpAny _ _ (pyIter (Value.ref _)) (fun it s₂ => TurnsAt _ _ _ _ _ _ _ _ _ it s₂) _ _); ktu_seq)
  k_with "mine updF" => (first | (refine' UpdF.head ?ma; (case ma => k_extra "mine off")) | (refine' UpdF.tail ?ma ?mb; (case ma => k_ne); (case mb => k_extra "mine updF")))
  k_with "mine:storeName" => (k_here; k_dflt (first
    | (refine' storeX_L ?mF ?mN ?_ ?ma ?mb; (case ma => rfl); (case mb => rfl); (case mF => k_asm); (case mN => k_asm); k_whole; intro h'w F'w N'w; (try k_sweep))
    | (refine' storeX_C ?mF ?mN ?mc ?mU ?md ?_ ?ma ?mb; (case ma => rfl); (case mb => rfl); (case mF => k_asm); (case mN => k_asm); (case mc => rfl); (case mU => k_extra "mine updF"); (case md => k_asm); k_whole; intro h'w o'w F'w N'w d'w; (try dsimp only at N'w); (try k_sweep))))
  k_with "mine:CompSrc" => (k_here; k_dflt (refine LCg.CompSrc.ledger (by rfl) (by k_asm) (by k_asm) (by k_mem) (by exact Nat.le_of_ble_eq_true rfl) ?_; intro g'w; lcg_lit))
  k_with "mine enterC" => (refine' code_defPC2 ?mkb ?mk1 ?mk2 ?mk3 ?mk4 ?mk5 ?mkA ?mkF ?mkK ?mk6 ?mk7 ?mk8 ?mk9 ?mkB ?mkD ?mkE ?mkG ?_ ?mc2 ?mc3 ?mc4; (case mkb => assumption); (case mkA => exact rfl); (case mkF => exact rfl); (case mkK => assumption); (case mk1 => k_asm); (case mk2 => k_asm); (case mk3 => k_asm); (case mk4 => k_asm); (case mk5 => k_asm); (case mk6 => k_is); (case mk7 => k_is); (case mk8 => ktr_room); (case mk9 => exact BindsTo.of_eq rfl); (case mkB => exact rfl); (case mkD => decide +kernel); (case mkE => intro _; rfl); (case mkG => intro _; rfl); (case mc2 => exact rfl); (case mc3 => exact rfl); (case mc4 => exact rfl); k_whole; intro g'w L'w h'w tk'w cells'w hH'w FG'w F'w N'w Y'w B'w X'w T'w l1'w; (try k_lt l1'w); k_cells Y'w; (try simp only [List.cons_append, List.nil_append] at N'w); (try dsimp only); (try k_lift B'w); (try k_fold); refine cut ?_; intro qq'w hq'w; refine letA ?_; intro A1'w)
  trivial
theorem ksetP56_33 : True := by
  k_with "mine size" => (first | exact Nat.le_of_ble_eq_true rfl | (rw [dotS_len]; (first | (show _ + 1 ≤ _; omega) | (show _ + 3 ≤ _; omega))) | exact cat_sz (by assumption) | exact ae_len (by assumption) (by assumption) (by assumption) | omega)
  k_with "mine:binaryOp Mult str int" => (k_here; (with_reducible refine' mul_r ?mh ?_); (case mh => omega); intro t'w tk'w)
  k_with "mine:binaryOp Add str str" => (k_here; (with_reducible refine' cat_q ?me ?mz ?_); (case me => first | exact dot_a _ | exact dot_ae _ | assumption | rfl); (case mz => k_dflt (k_extra "mine size")); intro t'w tk'w)
  k_with "mine:eval ListComp" => (k_here; (with_reducible show wpAny _ _ (eval (Expr.ListComp (Expr.BinOp (Expr.BinOp (Expr.Constant _ _ _) _ _ _) _ _ _) _ _ _) _) _ _ _); k_dflt (refine comp_P (F₀ := by k_asm) (by with_unfolding_all rfl) (by decide) (by rfl) (by decide) (by rfl) ?_))
  k_with "mine:CSrcP" => (k_here; k_dflt (refine CSrcP.at (by rfl) (by k_asm) (by k_asm) (by k_mem) (by exact Nat.le_of_ble_eq_true rfl) ?_; intro g'w; (show CompRestP _ _ _ _ _ _ _ _ _ _ _ _ _ _ _ 3 0 []); (try dsimp only)))
  k_with "mine turn" => (
    intro n'w t'w I'w oI'w C'w oC'w D'w m'w h'w tk'w ys'w E'w hn'w htk'w hC'w hx'w F'w N'w off'w ne'w
    (try dsimp only)
    refine cut ?_
    intro q4'w hq4'w)
  k_with "mine:CompRestP" => (first
    | ((with_reducible show CompRestP _ _ _ _ _ _ _ (Expr.BinOp _ _ (Expr.Constant (Const.str (Str.ofString "a")) _ _) _) _ _ _ _ _ _ _ _ _ _); (refine' CompRestP.ints3 (fun n t => .str (rowS n) t) ?mhp ?mhq ?mhr ?_ ?_; (case mhp => omega); (case mhq => omega); (case mhr => omega)); k_extra "mine turn")
    | ((with_reducible show CompRestP _ _ _ _ _ _ _ (Expr.BinOp _ _ (Expr.Constant (Const.str (Str.ofString "a\r\n")) _ _) _) _ _ _ _ _ _ _ _ _ _); (refine' CompRestP.ints3 (fun n t => .str (rowE n) t) ?mhp ?mhq ?mhr ?_ ?_; (case mhp => first | assumption | omega); (case mhq => first | assumption | omega); (case mhr => first | assumption | omega)); k_extra "mine turn"))
  k_with "mine:CompEndP" => (first | (refine CompEndP.intro (by k_asm) (by k_asm) ⟨_, rfl⟩) | (refine CompEndP.intro (by k_asm) (newsTl (by k_asm)) ⟨_, rfl⟩) | (refine CompEndP.intro (by k_asm) (by k_asm) (by first | exact now_yes (by assumption) | exact now_no (by assumption))))
  k_with "mine:eval ListComp" => (k_here; (with_reducible show wpAny _ _ (eval (Expr.ListComp (Expr.BinOp (Expr.Name _ _) _ (Expr.Subscript _ _ _) _) _ _ _) _) _ _ _); k_dflt (refine comp_E (F₀ := by k_asm) (by with_unfolding_all rfl) (by decide) (by rfl) (by decide) (by rfl) (by rfl) (by decide) ?_))
  k_with "mine:call type:enumerate" => (k_here; k_dflt (refine call_enumE (by rfl) (by k_asm) (by k_asm) (by k_mem) (by exact Nat.le_of_ble_eq_true rfl) ?_; intro g'w; (show CompRestE _ _ _ _ _ _ _ _ _ _ _ _ _ _ _ _ 4 0 []); (try dsimp only)))
  k_with "mine:subscriptTail" => (k_here; (with_reducible show wpAny _ _ (subscriptTail _ _ _ (Value.int (Int.fmod _ _) _)) _ _ _); k_dflt (refine item_nl (by k_asm) (by k_mem) ?mh0 ?mh3 ?_); (case mh0 => exact Int.fmod_nonneg_of_pos _ (by decide)); (case mh3 => exact Int.fmod_lt_of_pos _ (by decide)); intro t'w)
  k_with "mine:call builtin:str.join" => (k_here; k_dflt (refine' join_list (l := [(_, _), (_, _), (_, _)]) (by k_asm) (by k_mem) (by rfl) ⟨_, by rfl⟩ (join_rows _ _ _) ?mz ?_); (case mz => exact Nat.le_trans (rowsS_len (by assumption) (by assumption) (by assumption)) (by decide)); intro t'w k'w)
  k_with "mine:call ref" => (k_here; (with_reducible show wpAny _ _ (call (Value.ref 48) _) _ _ _); k_dflt (refine' use_str (quote_c _ _ _ _ _ _ _ _ ?mpa ?mpb ?mpc ?mpd ?mpe) ?mk1 ?mk2 ?mk3 ?mk4 ?mk5 ?mk6 ?mk7 ?mk8 ?mk9 ?_; k_extra "mine use"; (case mpb => exact send_1 _ _ _ _ (by assumption)); (case mpd => exact send_2 _ _ _ _ (by assumption)); (case mpa => exact Nat.le_trans (TX_len (by assumption) (by assumption) (by assumption) (by omega)) (by decide)); (case mpc => exact Nat.le_trans (midX_len (by assumption) (by assumption) (by assumption) (by omega)) (by decide)); (case mpe => exact Nat.le_trans (TX_len (by assumption) (by assumption) (by assumption) (by omega)) (by decide))))
  k_with "mine:call ref" => (k_here; ((with_reducible show wpAny _ _ (call (Value.ref 55) _) _ _ _); k_dflt (refine' use_tup3 (yiq_c _ _ _ _ _ _ _ _ _ _) ?mk1 ?mk2 ?mk3 ?mk4 ?mk5 ?mk6 ?mk7 ?mk8 ?mk9 ?_; k_extra "mine use"); intro D'w u1'w u2'w u3'w h'w tk'w o9'w F'w N'w o1'w hP'w; k_extra "mine offs"))
  k_with "mine:exec For Name Call cons nil" => (k_here; (rename Fr _ _ _ _ => lF'w); (with_unfolding_all refine' For_turns lF'w ?_; k_whole))
  k_with "mine:pyIter ref" => (k_here; (with_reducible show wpAny _ _ (pyIter (Value.ref _)) (fun it s₂ => TurnsAt _ _ _ _ _ _ _ _ _ it s₂) _ _); (refine' iter_rangeTurns (n := 3) ?mhh ?mhr ?msm ?mhn ?mF ?mN ?_; (case mhh => rfl); (case mhr => assumption); (case msm => decide); (case mhn => decide); (case mF => k_asm); (case mN => k_asm)); intro I'w l1'w; (try k_lt l1'w))
  k_with "mine:eval ListComp" => (k_here; (with_reducible show wpAny _ _ (eval (Expr.ListComp (Expr.IfExp _ _ _ _) _ _ _) _) _ _ _); k_dflt (refine comp_P (F₀ := by k_asm) (by with_unfolding_all rfl) (by decide) (by rfl) (by decide) (by rfl) ?_))
  k_with "mine:exec Assign cons ListComp" => (k_here; k_dflt (refine assign_P (F₀ := by k_asm) (by rfl) (by with_unfolding_all rfl) (by with_unfolding_all rfl) (by decide) (by rfl) (by decide) (by rfl) (by rfl) (by rfl) ?_))
  k_with "mine split" => ((repeat (rename (@Ne Nat _ _) ∧ _ => hq'w; have hl'w := And.left hq'w; have hr'w := And.right hq'w; clear hq'w)); (repeat (rename (@LT.lt Nat _ _ _) ∧ _ => hq'w; have hl'w := And.left hq'w; have hr'w := And.right hq'w; clear hq'w)))
  k_with "mine:FinA" => ((unfold LCg.FinA); intro D'w h'w tk'w F'w N'w o1'w; (try simp only [List.nil_append, List.cons_append] at N'w o1'w); k_extra "mine offs"; (try dsimp only))
  k_with "mine ne" => (first | with_reducible assumption | (refine Ne.symm ?_; with_reducible assumption) | (refine Nat.ne_of_lt ?_; with_reducible assumption) | (refine Nat.ne_of_gt ?_; with_reducible assumption) | (refine neN ?_; (try dsimp only); (try simp only [ne_eq]); omega))
  k_with "mine:call builtin:str.split" => (k_here; (with_reducible refine' split5 ?me ?mF ?mN ?my ?mz ?_); (case me => assumption); (case mF => k_asm); (case mN => k_asm); (case my => decide +kernel); (case mz => assumption); intro D'w t1'w t2'w t3'w t4'w t5'w h'w tk'w F'w N'w o1'w; k_extra "mine offs")
  k_with "mine:call ref" => (k_here; (with_reducible show wpAny _ _ (call (Value.ref 105) _) _ _ _); k_dflt (refine' use_takes (takes_c _ _ _ _ _ _ _ _ _ ?mpa ?mpb ?mpc _ _ _) ?mk1 ?mk2 ?mk3 ?mk4 ?mk5 ?mk6 ?mk7 ?mk8 ?mk9 ?_; k_extra "mine use"; (case mpa => assumption); (case mpb => assumption); (case mpc => assumption)); intro D'w r0'w r1'w r2'w h'w tk'w F'w N'w oD'w oa'w ob'w oc'w ne1'w ne2'w ne3'w ne4'w ne5'w ne6'w; k_extra "mine offs"; k_extra "mine offs"; k_extra "mine offs"; k_extra "mine offs")
  k_with "mine:subscriptTail Name Name ref int" => (k_here; first
    | ((with_reducible show wpAny _ _ (subscriptTail _ _ (Value.ref (pick3 _ _ _ _)) (Value.int _ _)) _ _ _); k_dflt (refine' item_take ?mN ?mm0 ?mm1 ?mm2 ?mx0 ?mx3 ?my0 ?my3 ?_ ?mz; (case mN => k_asm); (case mm0 => k_mem); (case mm1 => k_mem); (case mm2 => k_mem); (case mx0 => assumption); (case mx3 => assumption); (case my0 => assumption); (case my3 => assumption); (case mz => (intro _; with_unfolding_all rfl))))
    | ((with_reducible show wpAny _ _ (subscriptTail _ _ (Value.ref _) (Value.int _ _)) _ _ _); k_dflt (refine' item_ref ?mN ?mm ?mc ?md ?mx0 ?mx3 ?_ ?mz; (case mN => k_asm); (case mm => k_mem); (case mc => rfl); (case md => exact ⟨_, rfl⟩); (case mx0 => assumption); (case mx3 => assumption); (case mz => with_unfolding_all rfl)))
    | ((with_reducible show wpAny _ _ (subscriptTail _ _ (Value.ref _) (Value.int _ _)) _ _ _); k_dflt (refine' item_now ?mN ?mm ?mc ?md ?mx0 ?mx3 ?_ ?mz; (case mN => k_asm); (case mm => k_mem); (case mc => rfl); (case md => exact ⟨_, rfl⟩); (case mx0 => assumption); (case mx3 => assumption); (case mz => with_unfolding_all rfl)); intro t'w))
  k_with "mine:subscriptTail Subscript" => (walk_at "subscriptTail Name Name ref int")
  k_with "mine:compareOp IsNot bool bool" => (k_here; (with_reducible refine isNot_eq ?me ?_); (case me => first | exact rfl | exact tk3_ge _ _ _ _ _))
  k_with "mine:UnrEndW" => (refine' UnrEndW.introA ?mF ?mN ?mhI ?mhb ?moff ?mhm; (case mF => k_asm); (case mN => k_asm); (case mhI => k_subL); (case mhb => k_subL); (case moff => ktu_offL); (case mhm => (intro y hy; (simp only [List.mem_cons, List.not_mem_nil, or_false, not_or] at hy); first | (k_extra "mine same"; done) | rfl | (simp +zetaDelta [hy]; done))))
  k_with "mine:call ref" => (k_here; (with_reducible show wpAny _ _ (call (Value.ref 112) _) _ _ _); k_dflt (refine' use_six (sixths_c _ _ _ _ _ _ _ _ _ _ _) ?mk1 ?mk2 ?mk3 ?mk4 ?mk5 ?mk6 ?mk7 ?mk8 ?mk9 ?_; k_extra "mine use"); intro D'w vs'w cap'w h'w tk'w hv'w F'w N'w o1'w; k_extra "mine offs")
  k_with "mine:call ref" => (k_here; (with_reducible show wpAny _ _ (call (Value.ref 100) _) _ _ _); k_dflt (refine' use_bool (hues_w _ _ _ _ _ _ _ _ _ _ _ ?mpa ?mpb ?mpc _ ?mpv _ _ _) ?mk1 ?mk2 ?mk3 ?mk4 ?mk5 ?mk6 ?mk7 ?mk8 ?mk9 ?_; k_extra "mine use"; (case mpv => assumption); (case mpa => assumption); (case mpb => assumption); (case mpc => assumption)); intro h'w tk'w F'w N'w)
  k_with "mine:call builtin:list.append" => (k_here; (refine' app_ws ?mF ?mN ?mU ?mz ?_; (case mF => k_asm); (case mN => k_asm); (case mU => k_extra "mine updF"); (case mz => omega)); intro h'w F'w N'w)
  k_with "mine:subscriptTail Name Name ref int" => (k_here; (with_reducible show wpAny _ _ (subscriptTail _ _ (Value.ref _) (Value.int _ _)) _ _ _); k_dflt (refine' item_tup3 ?mN ?mm ?mx0 ?mx3 ?_ ?mz; (case mN => k_asm); (case mm => k_mem); (case mx0 => assumption); (case mx3 => assumption); (case mz => with_unfolding_all rfl)); intro t'w)
  k_with "mine:CompSrc" => (k_here; k_dflt (refine LCg.CompSrc.range (by rfl) (by k_asm) (by k_asm) (by assumption) (by decide) (by rfl) (by exact Nat.le_of_ble_eq_true rfl) ?_; intro g'w; lcg_lit))
  k_with "mine:call ref" => (k_here; (with_reducible show wpAny _ _ (call (Value.ref 93) _) _ _ _); k_dflt (refine' use_bool (light_c _ _ _ _ _ _ _ _ _ _ _ _ _ _ _ _ _ _ _ _ ?mha0 ?mha ?mhb0 ?mhb ?mhc0 ?mhc ?mY ?mI ?mQ) ?mk1 ?mk2 ?mk3 ?mk4 ?mk5 ?mk6 ?mk7 ?mk8 ?mk9 ?_; k_extra "mine use"; (case mY => assumption); (case mI => assumption); (case mQ => assumption); (case mha0 => exact Int.natCast_nonneg _); (case mhb0 => exact Int.natCast_nonneg _); (case mhc0 => exact Int.natCast_nonneg _); (case mha => exact le_16 (by assumption)); (case mhb => exact le_16 (by assumption)); (case mhc => exact le_16 (by assumption))); intro h'w tk'w F'w N'w)
  k_with "mine:call ref" => (k_here; (with_reducible show wpAny _ _ (call (Value.ref 83) _) _ _ _); k_dflt (first
    | (refine' use_bool (ellA_c _ _ _ _ _ _) ?mk1 ?mk2 ?mk3 ?mk4 ?mk5 ?mk6 ?mk7 ?mk8 ?mk9 ?_; k_extra "mine use")
    | (refine' use_bool (ellB_c _ _ _ _ _ _) ?mk1 ?mk2 ?mk3 ?mk4 ?mk5 ?mk6 ?mk7 ?mk8 ?mk9 ?_; k_extra "mine use")
    | (refine' use_bool (ellC_c _ _ _ _ _ _) ?mk1 ?mk2 ?mk3 ?mk4 ?mk5 ?mk6 ?mk7 ?mk8 ?mk9 ?_; k_extra "mine use")); intro h'w tk'w F'w N'w)
  k_with "mine:compareOp Eq ref ref" => (k_here; (with_reducible show wpAny _ _ (compareOp CmpOp.Eq (Value.ref _) (Value.ref _)) _ _ _); k_dflt (refine' eq_six ?mN ?mm1 ?mm2 ?mi1 ?mi2 ?mhu ?_; (case mN => k_asm); (case mm1 => k_mem); (case mm2 => k_mem); (case mi1 => with_reducible assumption); (case mi2 => with_reducible assumption); (case mhu => units_room)))
  trivial

theorem holds_c (w mean mg mb) (l : Addr) (n : Nat) (P Q R K : Nat) (hP : P ≤ 9) (hQ : Q ≤ 9) (hR : R ≤ 9) (hK : K ≤ 2) (t1 t2 t3 tk : Tok) :
    Ctr w mean mg mb 117 [.ref l, .int (K : Int) tk] [(l, listOf #[.int (P : Int) t1, .int (Q : Int) t2, .int (R : Int) t3] n)] 5 (PBool true) := by
  have hM : Mp (fun y => if y = Str.ofString "parts" then some (.ref l) else none) (fun y => if y = Str.ofString "kind" then some (.int (K : Int) tk) else none) := trivial
  obtain ⟨ra, era⟩ : ∃ z, divI (P : Int) 16 = z := ⟨_, rfl⟩
  obtain ⟨rb, erb⟩ : ∃ z, divI (Q : Int) 16 = z := ⟨_, rfl⟩
  obtain ⟨rc, erc⟩ : ∃ z, divI (R : Int) 16 = z := ⟨_, rfl⟩
  obtain ⟨sa, esa⟩ : ∃ z, divI (min 1 (P : Int)) 16 = z := ⟨_, rfl⟩
  obtain ⟨sb, esb⟩ : ∃ z, divI (min 1 (Q : Int)) 16 = z := ⟨_, rfl⟩
  obtain ⟨sc, esc⟩ : ∃ z, divI (min 1 (R : Int)) 16 = z := ⟨_, rfl⟩
  have ia : In (divI (P : Int) 16) _ _ := six_in (Int.natCast_nonneg P) (by omega)
  have ib : In (divI (Q : Int) 16) _ _ := six_in (Int.natCast_nonneg Q) (by omega)
  have ic : In (divI (R : Int) 16) _ _ := six_in (Int.natCast_nonneg R) (by omega)
  have ja : In (divI (min 1 (P : Int)) 16) _ _ := six_in (by omega) (by omega)
  have jb : In (divI (min 1 (Q : Int)) 16) _ _ := six_in (by omega) (by omega)
  have jc : In (divI (min 1 (R : Int)) 16) _ _ := six_in (by omega) (by omega)
  rw [era] at ia
  rw [erb] at ib
  rw [erc] at ic
  rw [esa] at ja
  rw [esb] at jb
  rw [esc] at jc
  have Y := yiq_in (Int.natCast_nonneg P) (by omega) (Int.natCast_nonneg Q) (by omega) (Int.natCast_nonneg R) (by omega) ia ib ic
  have Z := yiq_in (by omega) (by omega) (by omega) (by omega) (by omega) (by omega) ja jb jc
  clear ia ib ic ja jb jc
  k_extra "mine startC"
  iterate 44 (first | ((with_reducible show wpAny _ _ (call (Value.type "enumerate") _) _ _ _); skip) | k_extra "mine step")
  refine call_enumE (by rfl) (by k_asm) (by k_asm) (by k_mem) (by exact Nat.le_of_ble_eq_true rfl) ?_
  intro g'
  refine' CompRestE.strs4 (fun i X => X ++ nlS (((K : Int) + (i : Int)).fmod 3)) ?h0 ?h1 ?h2 ?h3 ?turn ?fin
  case h0 => exact Nat.le_of_ble_eq_true rfl
  case h1 => show (rowS P).length ≤ 100; rw [show (rowS P).length = P + 1 by simp [rowS, mkS, Str.length]]; omega
  case h2 => show (rowS Q).length ≤ 100; rw [show (rowS Q).length = Q + 1 by simp [rowS, mkS, Str.length]]; omega
  case h3 => show (rowS R).length ≤ 100; rw [show (rowS R).length = R + 1 by simp [rowS, mkS, Str.length]]; omega
  case turn =>
    intro i X tx t e oe it oi C oC D ys m₂ h tk' E' hi hX hC ha hb F N
    iterate 23 (all_goals k_extra "mine step")
  case fin =>
    intro u0 u1 u2 u3
    iterate 4 (first | ((with_reducible show wpAny _ _ (call (Value.builtin "str.join") _) _ _ _); skip) | k_extra "mine step")
    refine' join_list (l := [(_, _), (_, _), (_, _), (_, _)]) (by k_asm) (by k_mem) (by rfl) ⟨_, by rfl⟩ (mail_is _ _ _ _) ?zz ?_
    case zz => exact Nat.le_trans (TX_len hP hQ hR (by decide)) (by decide)
    intro t' k'
    iterate 150 (first | ((with_reducible show ItemsRest _ _ _ _ _ _ _ _ _ _ _ _ _ _ _); skip) | k_extra "mine step")
    refine' ItemsRest.home (Str.ofString "text") [Str.ofString "now", Str.ofString "rows", Str.ofString "takes", Str.ofString "x", Str.ofString "y", Str.ofString "sixths", Str.ofString "one", Str.ofString "other"] (TX K P Q R) (HomeR (sixL P Q R 6)) ?hC ?hH ?hz ?hoz ?hy ?turn ?done
    case hC => with_reducible assumption
    case hH => rfl
    case hz => exact HomeR.zero ..
    case hoz => exact ⟨by k_ne, by k_ne, by k_ne⟩
    case hy => rfl
    case done =>
      intro u t hv hc A0 A1 A2 o0 o1 o2 oC cv h tk hRR hcv F N
      unfold mapH at F
      simp only [dirt] at F
      (try dsimp only [envOfC] at F N)
      (try dsimp only)
      refine named ?_
      intro Gt kt
      obtain ⟨rfl, ⟨vs0, c0, rfl, hI0⟩, ⟨vs1, c1, rfl, hI1⟩, ⟨vs2, c2, rfl, hI2⟩⟩ := hRR.end
      refine kt ?_
      clear kt
      k_steps
      k_extra "mine ret"
      rfl
    case turn =>
      intro i t5 u5 tx hv hc A0 A1 A2 o0 o1 o2 oC cv h tk5 hi hRR hcv z0 z1 z2 F
      have z01 := z0.1
      have z02 := z0.2.1
      have z03 := z0.2.2
      have z11 := z1.1
      have z12 := z1.2.1
      have z13 := z1.2.2
      have z21 := z2.1
      have z22 := z2.2.1
      have z23 := z2.2.2
      unfold mapH at F
      simp only [dirt] at F
      ktu_objs
      rename News _ _ _ _ => N
      (try dsimp only [envOfC] at F N)
      (try k_fold)
      refine cut2 ?_
      intro q1 hq1
      iterate 32 (first | ((with_reducible show CompRestP _ _ _ _ _ _ _ _ _ _ _ _ _ _ _ _ _ _); skip) | k_extra "mine step" | skip)
      refine' CompRestP.ints3 (fun n t => .int ((nw n (i + 1) : Nat) : Int) t) ?hp ?hq ?hr ?tn ?fn
      case hp => omega
      case hq => omega
      case hr => omega
      case tn =>
        k_extra "mine turn"
        iterate 11 (k_extra "mine step")
        all_goals (iterate 3 (all_goals k_extra "mine step"))
      case fn =>
        intro u0 u1 u2
        have hP' : nw P (i + 1) ≤ 12 := nw_le hP hi
        have hQ' : nw Q (i + 1) ≤ 12 := nw_le hQ hi
        have hR' : nw R (i + 1) ≤ 12 := nw_le hR hi
        have hT := text_is K P Q R hi
        have hTT : (TX K P Q R (i + 1) != TX K P Q R (i + 1)) = false := by simp
        have eT := TX_succ K P Q R hi
        have hSp : Txt.split (TX K P Q R (i + 1)) (Str.ofString "\r\n") = [mkS [97], rowS (nw P (i + 1)), rowS (nw Q (i + 1)), rowS (nw R (i + 1)), mkS []] := by rw [eT]; exact split_text _ _ _
        have hSz : (TX K P Q R (i + 1)).length + 2 ≤ sizeLine := by
          have h1 := sizeLine_eq
          have h2 : (TX K P Q R (i + 1)).length ≤ 100 := TX_len hP hQ hR (by omega)
          omega
        clear eT
        iterate 100 (first | ((with_reducible show ItemsRest _ _ _ _ _ _ _ _ _ _ _ _ _ _ _); skip) | k_extra "mine step" | skip)
        refine' ItemsRest.invA [Str.ofString "x", Str.ofString "y"] ?turn2 ?done2
        case turn2 =>
          intro x2 t52 u52 h2 tk2 hx0 hx3 F2
          replace hx3 : x2 < 3 := hx3
          simp only [dirt] at F2
          ktu_objs
          rename News _ _ _ _ => N2
          (try dsimp only [envOfC] at F2 N2)
          (try k_fold)
          refine cut2 ?_
          intro q2 hq2
          iterate 36 (first | ((with_reducible show ItemsRest _ _ _ _ _ _ _ _ _ _ _ _ _ _ _); skip) | k_extra "mine step" | skip)
          refine' ItemsRest.invA [Str.ofString "y"] ?turn3 ?done3
          case turn3 =>
            intro y2 t53 u53 h3 tk3' hy0 hy3 F3
            replace hy3 : y2 < 3 := hy3
            simp only [dirt] at F3
            ktu_objs
            rename News _ _ _ _ => N3
            (try dsimp only [envOfC] at F3 N3)
            (try k_fold)
            refine cut2 ?_
            intro q3 hq3
            iterate 60 (all_goals k_extra "mine step")
          case done3 =>
            intro u53 h3 tk3' F3 N3
            simp only [dirt] at F3
            (try dsimp only [envOfC] at F3 N3)
            (try dsimp only)
            iterate 16 (all_goals k_extra "mine step")
        case done2 =>
          intro u52 h2 tk2' F2 N2
          simp only [dirt] at F2
          (try dsimp only [envOfC] at F2 N2)
          (try dsimp only)
          k_extra "mine split"
          have hvl := hRR.len
          iterate 74 (first | ((with_reducible show LCg.CompSrc _ _ _ _ _ _ _ _ _ _ _ _ _ _); skip) | k_extra "mine step")
          have hk : (1 : Int) + (i : Int) = 1 ∨ (1 : Int) + (i : Int) = 2 ∨ (1 : Int) + (i : Int) = 3 := by omega
          have eP := nw_at P i
          have eQ := nw_at Q i
          have eR := nw_at R i
          have bP : 0 ≤ (P : Int) ∧ (P : Int) ≤ 9 := by omega
          have bQ : 0 ≤ (Q : Int) ∧ (Q : Int) ≤ 9 := by omega
          have bR : 0 ≤ (R : Int) ∧ (R : Int) ≤ 9 := by omega
          have mP : 0 ≤ min 1 (P : Int) ∧ min 1 (P : Int) ≤ 1 := by omega
          have mQ : 0 ≤ min 1 (Q : Int) ∧ min 1 (Q : Int) ≤ 1 := by omega
          have mR : 0 ≤ min 1 (R : Int) ∧ min 1 (R : Int) ≤ 1 := by omega
          have Ly := L_y hk bP bQ bR mP mQ mR eP eQ eR Y.1 Z.1
          have Li := L_i hk bP bQ bR mP mQ mR eP eQ eR Y.2.1 Z.2.1
          have Lq := L_q hk bP bQ bR mP mQ mR eP eQ eR Y.2.2 Z.2.2
          clear hk eP eQ eR bP bQ bR mP mQ mR
          generalize e0 : Float64.add (yiqY ra rb rc) (Float64.mul (Float64.ofInt (1 + (i : Int))) (yiqY sa sb sc)) = L0 at Ly
          generalize e1 : Float64.add (yiqI ra rc (yiqY ra rb rc)) (Float64.mul (Float64.ofInt (1 + (i : Int))) (yiqI sa sc (yiqY sa sb sc))) = L1 at Li
          generalize e2 : Float64.add (yiqQ ra rc (yiqY ra rb rc)) (Float64.mul (Float64.ofInt (1 + (i : Int))) (yiqQ sa sc (yiqY sa sb sc))) = L2 at Lq
          k_extra "mine step"
          refine' rng3 (fun z => Float64.add (pick3 (yiqY ra rb rc) (yiqI ra rc (yiqY ra rb rc)) (yiqQ ra rc (yiqY ra rb rc)) z) (Float64.mul (Float64.ofInt (1 + (i : Int))) (pick3 (yiqY sa sb sc) (yiqI sa sc (yiqY sa sb sc)) (yiqQ sa sc (yiqY sa sb sc)) z))) e0 e1 e2 ?tr ?fr
          case tr =>
            intro n6 t6 I6 oI6 C6 oC6 D6 m6 h6 tk6 ys6 E6 hn0 hn3 hC6 hx6 F6 N6 off6 ne6
            refine cut ?_
            intro q6 hq6
            iterate 14 (k_extra "mine step")
            exact rngEnd (by k_asm) (by k_asm) (by assumption)
          case fr =>
            clear e0 e1 e2 Y Z
            have c1 := cat_1
            have c2 := cat_2
            have c3 := cat_3
            have c4 := cat_4
            have c5 := cat_5
            intro u0 u1 u2
            iterate 200 (first | ((with_reducible show UnrEndW _ _ _ _ (fun m n => SubL [] n ∧ ∃ n₁, SubL n₁ n ∧ TurnH _ _ _ _ _ _ _ _ _ _ _) _); skip) | k_extra "mine step")
            rename IntVs _ _ => hvI
            rw [sixL_nw] at hvI
            refine' UnrEndW.introH ?F ?N ?hcv ?m0 ?m1 ?m2 ?mH ?mC ?hR ?hI ?hb ?z0 ?z1 ?z2 ?off ?hy ?hm
            case F => k_asm
            case N => k_asm
            case mH => k_mem
            case' hR => refine' HomeR.step hRR hi ?hS
            case m0 => k_mem
            case hS => exact ⟨_, _, rfl, hvI⟩
            case m1 => k_mem
            case m2 => k_mem
            case mC => k_mem
            case hcv => with_reducible assumption
            case hI => k_subL
            case hb => k_subL
            case z0 => exact ⟨by k_ne, by k_ne, by k_ne⟩
            case z1 => exact ⟨by k_ne, by k_ne, by k_ne⟩
            case z2 => exact ⟨by k_ne, by k_ne, by k_ne⟩
            case off => ktu_offL
            case hy => rfl
            case hm =>
              intro z hz1 hz2
              simp only [List.mem_cons, List.not_mem_nil, or_false, not_or] at hz2
              first | (k_extra "mine same"; done) | rfl | (simp +zetaDelta [hz1, hz2]; done)
end
section
section
variable {prog : Program} {w : World} {A : Around} {E : Value → Shared → Prop} {s : Shared} {env : Env} {h₀ : Heap} {target : Expr} {body : List Stmt} {Q : Flow → Shared → Prop}
/-- a loop over a list, its turns alike -/
theorem ItemsRest.invB {ws : List (Addr × String)} {keep news : List (Addr × Obj)} {vs : List Value} {m₀ : Str → Option Value} (xs : List Str) (P : Value → Prop) (hs : SubL keep news) (hv : ∀ v ∈ vs, P v)
    (turn : ∀ v u h tk, P v → Fr h₀ env.locals h (dirt xs u m₀) → AllObj ws (fun its => News h₀ env.locals h (its ++ keep) →
      wpAny (model prog w) A (assign target env v) (fun _ s₂ => wpAny (model prog w) A (execs body env) (UnrPostW h₀ env.locals { s with heap := h, toks := tk } its (fun m' n' => SubL keep n' ∧ ∃ n₁, SubL n₁ n' ∧ TurnA xs keep m₀ m' n₁) Q) E s₂) E { s with heap := h, toks := tk }))
    (done : ∀ u h tk, Fr h₀ env.locals h (dirt xs u m₀) → News h₀ env.locals h keep → Q .next { s with heap := h, toks := tk }) :
    ItemsRest prog w A E h₀ env target body Q s ws keep (vs.map .val) m₀ news := by
  obtain ⟨u₀, hu₀⟩ := dirt_of (xs := xs) (m := m₀) (m' := m₀) fun _ _ => rfl
  refine ItemsRest.inv (fun _ m' n' => TurnA xs keep m₀ m' n') (xs := vs.map .val) ?_ ?_ _ 0 m₀ keep news rfl (Nat.zero_le _) ⟨u₀, hu₀, rfl⟩ hs
  · rintro i a m n v h tk hx ⟨u, rfl, rfl⟩ hav F
    obtain ⟨v', hv', e⟩ : ∃ v', vs[i]? = some v' ∧ Itm.val v' = a := by
      rw [List.getElem?_map] at hx
      cases q : vs[i]? with
      | none => rw [q] at hx; cases hx
      | some z => rw [q] at hx; exact ⟨z, rfl, Option.some.inj hx⟩
    subst e
    have e : v = v' := hav
    subst e
    exact turn v u h tk (hv v (List.mem_of_getElem? hv')) F
  · rintro m n h tk ⟨u, rfl, rfl⟩ F N
    exact done u h tk F N
theorem UnrEndW.introB {L : Addr} {its keep all : List (Addr × Obj)} {s₁ : Shared} {h' : Heap} {tk : Nat} {m₀ m' : Str → Option Value} {xs : List Str} (F : Fr h₀ L h' m') (N : News h₀ L h' all)
    (hI : SubL its all) (hk : SubL keep all) (off : OffW its keep) (hm : ∀ y, y ∉ xs → m' y = m₀ y) :
    UnrEndW h₀ L s₁ its (fun m' n' => SubL keep n' ∧ ∃ n₁, SubL n₁ n' ∧ TurnA xs keep m₀ m' n₁) { s₁ with heap := h', toks := tk } := by
  obtain ⟨u, e⟩ := dirt_of hm
  exact UnrEndW.intro F N keep hI hk off ⟨SubL.of fun p hp => hp, _, SubL.of fun p hp => hp, u, e, rfl⟩
end
/-- a number that names a colour -/
noncomputable def PNum (v : Value) : Prop := ∃ x t, v = .int x t ∧ 0 ≤ x ∧ x < 1000000
theorem pnum_two {t u : Tok} : ∀ v ∈ [Value.int 205 t, Value.int 2731 u], PNum v := by
  intro v hv
  rcases List.mem_cons.mp hv with rfl | hv
  · exact ⟨_, _, rfl, by decide, by decide⟩
  rcases List.mem_cons.mp hv with rfl | hv
  · exact ⟨_, _, rfl, by decide, by decide⟩
  cases hv
theorem pnum_three {t u z : Tok} {n : Int} : ∀ v ∈ [Value.int 205 t, Value.int 2731 u, Value.int (n.fmod 1000000) z], PNum v := by
  intro v hv
  rcases List.mem_cons.mp hv with rfl | hv
  · exact ⟨_, _, rfl, by decide, by decide⟩
  rcases List.mem_cons.mp hv with rfl | hv
  · exact ⟨_, _, rfl, by decide, by decide⟩
  rcases List.mem_cons.mp hv with rfl | hv
  · exact ⟨_, _, rfl, Int.fmod_nonneg_of_pos _ (by decide), Int.fmod_lt_of_pos _ (by decide)⟩
  cases hv
/-- a figure -/
theorem fig (x : Int) {b : Nat} (hb : 0 < b) : ∃ P : Nat, P < b ∧ x.fmod (b : Int) = (P : Int) := by
  have h0 := Int.fmod_nonneg_of_pos x (show (0 : Int) < (b : Int) by omega)
  have h1 := Int.fmod_lt_of_pos x (show (0 : Int) < (b : Int) by omega)
  exact ⟨(x.fmod b).toNat, by omega, by omega⟩
theorem take_cases {vs : List Value} {ns : List Int} (h : PyProof.Rows.IntsAre vs (ns.take 1)) : vs = [] ∨ ∃ n t, vs = [.int n t] := by
  cases ns with
  | nil => cases h; exact .inl rfl
  | cons n r =>
    rw [List.take_succ_cons, List.take_zero] at h
    cases h with
    | cons _ t h => cases h; exact .inr ⟨n, t, rfl⟩
theorem fig10 (x : Int) : ∃ P : Nat, P ≤ 9 ∧ x.fmod 10 = (P : Int) := by
  obtain ⟨P, h, e⟩ := fig x (b := 10) (by decide)
  exact ⟨P, by omega, e⟩
theorem fig3 (x : Int) : ∃ P : Nat, P ≤ 2 ∧ x.fmod 3 = (P : Int) := by
  obtain ⟨P, h, e⟩ := fig x (b := 3) (by decide)
  exact ⟨P, by omega, e⟩
end
section
theorem ksetP58_36 : True := by
  k_with_none
  k_with "mine enter" => (refine' code_defP ?mkb ?mk1 ?mk2 ?mk3 ?mk4 ?mk5 ?mkA ?mkF ?mkK ?mk6 ?mk7 ?mk8 ?mk9 ?mkB ?_ ?mc2 ?mc3 ?mc4 ?mc5; (case mkb => assumption); (case mkA => exact rfl); (case mkF => exact rfl); (case mkK => assumption); (case mk1 => k_asm); (case mk2 => k_asm); (case mk3 => k_asm); (case mk4 => k_asm); (case mk5 => k_asm); (case mk6 => k_is); (case mk7 => k_is); (case mk8 => ktr_room); (case mk9 => exact BindsTo.of_eq rfl); (case mc5 => decide); (case mkB => exact locs rfl); (case mc2 => exact rfl); (case mc3 => exact rfl); (case mc4 => exact rfl); k_whole; intro g'w L'w h'w hH'w FG'w F'w N'w B'w X'w T'w; (try simp only [List.reverse_cons, List.reverse_nil, List.nil_append, List.cons_append, List.length_cons, List.length_nil]); (try dsimp only); (try k_lift B'w); (try k_fold); refine cut ?_; intro qq'w hq'w; refine letA ?_; intro A1'w)
  k_with "mine start" => (w_top off; dsimp only [Ctr]; k_fill; intros; refine wpAny_call ?_; k_dflt (k_extra "mine enter"))
  k_with "mine keeps" => (refine' keeps_of ?mq1 ?mq2 ?mq3 ?mq4 ?mq5; (case mq1 => with_reducible assumption); (case mq2 => with_reducible assumption); (case mq3 => with_reducible assumption); (case mq4 => with_reducible assumption); (case mq5 => lcg_sub))
  k_with "mine off" => (first | exact List.forall_mem_nil _ | (refine List.forall_mem_cons.mpr ⟨?ma, ?mb⟩; (case ma => k_ne); (case mb => k_extra "mine off")))
  k_with "mine fresh" => (refine' fresh_of ?mq1 ?mq2 ?mq3 ?mq4; (case mq1 => with_reducible assumption); (case mq2 => with_reducible assumption); (case mq3 => k_mem); (case mq4 => k_extra "mine off"))
  k_with "mine ret" => ((rename RetOf _ _ _ => hR'w); refine' RetOf.at hR'w ?mkk ?_; (case mkk => k_extra "mine keeps"))
  k_with "mine tup3" => (k_extra "mine ret"; refine' ⟨_, _, _, _, rfl, ?mkf, ?mkg, ?_⟩; (case mkg => exact News.get (by with_reducible assumption) (by k_mem)); (case mkf => k_extra "mine fresh"))
  k_with "mine:execs cons" => (k_here; first | (refine' execs_cutL ?mhs ?mF ?mN ?_; (case mhs => first | (dsimp only; exact rfl) | dsimp only | exact rfl); (case mF => k_asm); (case mN => k_asm); intro m1'w n1'w F1'w N1'w q'w hq'w; try dsimp only at F1'w N1'w) | (refine' execs_cut ?_; intro q'w hq'w))
  k_with "mine:execs cons" => (k_here; (with_reducible show wpAny _ _ _ _ _ (Shared.mk _ _ _ (_ + _) _)); refine' gen_toks ?mhX ?_; (case mhX => omega); intro tk'w htk'w)
  k_with "mine:execs nil" => (k_here; (with_reducible show wpAny _ _ _ _ _ (Shared.mk _ _ _ (_ + _) _)); refine' gen_toks ?mhX ?_; (case mhX => omega); intro tk'w htk'w)
  k_with "mine units" => ((have hcL9 := cLine_is); (try simp +zetaDelta only [units_in1, units_deeper, Around.mark_units, units_caller]); (try dsimp +zetaDelta only [ktrTop]); omega)
  k_with "mine step" => (first | (k_unfold; (try dsimp only)) | (k_end; wrow_close) | walk1 | (dsimp only; walk1) | (leave1; walk_say "STEP leave1"; try dsimp only))
  k_with "mine ne" => (first | with_reducible assumption | (refine Ne.symm ?_; with_reducible assumption) | (refine Nat.ne_of_lt ?_; with_reducible assumption) | (refine Nat.ne_of_gt ?_; with_reducible assumption) | (refine neN ?_; (try dsimp only); (try simp only [ne_eq]); omega))
  k_with "mine:Held" => (refine Held.go (by with_reducible assumption) ?_; try dsimp only)
  k_with "mine offs" => (k_dflt ((rename LCg.Off1 _ _ => hq'w); refine Off1c.of hq'w ?_; clear hq'w; (repeat intro o2'w); refine ⟨?_⟩))
  k_with "mine:FinE" => ((unfold LCg.FinE); intro D'w h'w tk'w F'w N'w o1'w; (try simp only [List.nil_append, List.cons_append] at N'w o1'w); k_extra "mine offs"; (try dsimp only))
  k_with "mine:CompRest" => (with_unfolding_all first
    | (refine LCg.CompRest.succ ?_; intro v'w I'w oI'w C'w oC'w D'w m'w h'w tk'w E'w hv'w hC'w hx'w F'w N'w off'w ne'w; (first | lcg_open hv'w | (obtain ⟨t9'w, hv9'w⟩ := hv'w; subst hv9'w)); refine cut ?_; intro q4'w hq4'w)
    | refine LCg.CompRest.zero ?_)
  k_with "mine:CompRestT" => (with_unfolding_all first
    | (refine LCt.CompRestT.succ ?_; intro v'w I'w oI'w C'w oC'w D'w m'w h'w tk'w E'w hv'w hC'w hx'w F'w N'w off'w ne'w; (first | lcg_open hv'w | (obtain ⟨t9'w, hv9'w⟩ := hv'w; subst hv9'w)))
    | refine LCt.CompRestT.zero ?_)
  k_with "mine:CompEnd" => (refine LCg.CompEnd.intro (by k_asm) (by k_asm) _ (fun _ hp => hp) (by with_reducible assumption) (by lcg_src) ?_)
  k_with "mine arith" => (first | exact Nat.succ_pos _ | with_reducible assumption | (with_reducible exact ar_r0 (by assumption)) | (with_reducible exact ar_r2 (by assumption) (by decide)) | (with_reducible exact ar_r1 (by assumption) (by decide)) | (with_reducible exact ar_absC (by assumption) (by decide)) | (with_reducible exact ar_abs (by assumption) (by assumption) (by decide)) | (with_reducible exact ar_absN (by assumption) (by decide)) | (with_reducible exact ar_absM) | (with_reducible exact ar_absL (by assumption) (by decide)) | (with_reducible exact ar_cle (by assumption) (by decide)) | (with_reducible exact Int.natCast_nonneg _) | (with_reducible exact ar_min0) | (with_reducible exact ar_min1 (by decide)) | (with_reducible exact ar_sc (by assumption) (by decide)) | (with_reducible exact Nat.le_trans (by assumption) (by decide)) | decide)
  k_with "mine mem" => (first | exact memk 0 rfl | exact memk 1 rfl | exact memk 2 rfl | exact memk 3 rfl | exact memk 4 rfl | exact memk 5 rfl | exact memk 6 rfl | exact memk 7 rfl | exact memk 8 rfl | exact memk 9 rfl | exact memk 10 rfl | exact memk 11 rfl | exact memk 12 rfl | exact memk 13 rfl | exact memk 14 rfl | exact memk 15 rfl | exact memk 16 rfl | exact memk 17 rfl | exact memk 18 rfl | exact memk 19 rfl)
  k_with "mine same" => ((repeat (rename (¬ _) ∧ _ => hz'w; have hz1'w := And.left hz'w; have hz2'w := And.right hz'w; clear hz'w)); (repeat (first | with_reducible rfl | (refine (if_neg (by assumption)).trans ?_))))
  k_with "mine use" => ((case mk1 => k_asm); (case mk2 => k_asm); (case mk3 => k_asm); (case mk4 => k_asm); (case mk5 => k_asm); (case mk6 => exact rfl); (case mk7 => lcg_sub); (case mk8 => ktr_room); (case mk9 => units_room))
  k_with "mine:subscriptTail Name Constant ref int" => (k_here; (with_reducible show wpAny _ _ (subscriptTail _ _ (Value.ref _) (Value.int _ _)) _ _ _); kim_at)
  k_with "mine:subscriptTail Name Constant ref int" => (k_here; (with_reducible show wpAny _ _ (subscriptTail _ _ (Value.ref _) (Value.int _ _)) _ _ _); (with_unfolding_all refine' item_litK ?mk1 ?mk2 ?mk3 ?mk4 ?_ ?mk6; (case mk1 => is_list); (case mk2 => decide); (case mk3 => decide); (case mk4 => rfl); (case mk6 => with_unfolding_all rfl); k_whole))
  k_with "mine:binaryOp Div int int" => (k_here; (with_reducible refine' divI_r ?me ?mk1 ?mk2 ?mk3 ?_); (case me => first | assumption | exact rfl); (case mk1 => k_dflt rfl); (case mk2 => first | decide | omega); (case mk3 => omega); intro t'w)
  k_with "mine:binaryOp Mult float int" => (k_here; (with_reducible refine' mulFI_r ?me ?mk3 ?_); (case me => first | assumption | exact rfl); (case mk3 => omega); intro t'w)
  k_with "mine:binaryOp Mult int float" => (k_here; (with_reducible refine' mulIF_r ?me ?mk3 ?_); (case me => first | assumption | exact rfl); (case mk3 => omega); intro t'w)
  k_with "mine:call builtin:round" => (k_here; (with_reducible show wpAny _ _ (call (Value.builtin "round") [Value.float _ _]) _ _ _); (with_reducible refine' round_r ?mhf ?me ?mkh ?_); (case mhf => assumption); (case me => first | assumption | exact rfl); (case mkh => k_dflt rfl); intro t'w)
  k_with "mine:call builtin:max" => (k_here; first
    | ((with_reducible show wpAny _ _ (call (Value.builtin "max") [Value.ref _]) _ _ _); (with_reducible refine' max_l3 ?me ?mkh ?mk1 ?mk2 ?mk3 ?_); (case mk1 => k_asm); (case mk2 => k_asm); (case mk3 => k_dflt k_mem); (case me => assumption); (case mkh => k_dflt rfl); intro h'w tk'w t'w F'w N'w; (try k_sweep))
    | ((with_reducible show wpAny _ _ (call (Value.builtin "max") [Value.int _ _, Value.int _ _]) _ _ _); (with_reducible refine' max2_r ?me ?mkh ?mk1 ?mk2 ?_); (case mk1 => k_asm); (case mk2 => k_asm); (case me => first | assumption | exact rfl); (case mkh => k_dflt rfl); intro h'w tk'w t'w F'w N'w; (try k_sweep)))
  k_with "mine:call builtin:min" => (k_here; first
    | ((with_reducible show wpAny _ _ (call (Value.builtin "min") [Value.ref _]) _ _ _); (with_reducible refine' min_l3 ?me ?mkh ?mk1 ?mk2 ?mk3 ?_); (case mk1 => k_asm); (case mk2 => k_asm); (case mk3 => k_dflt k_mem); (case me => assumption); (case mkh => k_dflt rfl); intro h'w tk'w t'w F'w N'w; (try k_sweep))
    | ((with_reducible show wpAny _ _ (call (Value.builtin "min") [Value.int _ _, Value.int _ _]) _ _ _); (with_reducible refine' min2_r ?me ?mkh ?mk1 ?mk2 ?_); (case mk1 => k_asm); (case mk2 => k_asm); (case me => first | assumption | exact rfl); (case mkh => k_dflt rfl); intro h'w tk'w t'w F'w N'w; (try k_sweep)))
  k_with "mine:ite" => (k_here; first
    | (with_reducible refine ite_neg (by first | assumption | exact Bool.eq_false_iff.mp (by assumption) | (simp only [decide_true, decide_false, Bool.not_true, Bool.not_false, eq_self, Bool.false_eq_true, not_false_eq_true]; done) | ((try simp only [beq_iff_eq, bne_iff_ne, decide_eq_true_eq, ne_eq, Bool.not_eq_true', decide_eq_false_iff_not, Int.not_lt, Int.not_le]); omega)) ?_)
    | (with_reducible refine ite_pos (by first | assumption | (simp only [decide_true, decide_false, Bool.not_true, Bool.not_false, eq_self, Bool.false_eq_true, not_false_eq_true]; done) | ((try simp only [beq_iff_eq, bne_iff_ne, decide_eq_true_eq, ne_eq, Bool.not_eq_true', decide_eq_false_iff_not, Int.not_lt, Int.not_le]); omega)) ?_))
  k_with "mine:compareOp NotIn" => (k_here; (with_reducible show wpAny _ _ (compareOp CmpOp.NotIn (Value.int _ _) (Value.ref _)) _ _ _); (with_reducible refine' notIn_range ?mk1 ?mk2 ?mk3 ?_); (case mk1 => k_dflt assumption); (case mk2 => omega); (case mk3 => omega))
  k_with "mine:compareOp NotIn int ref" => (walk_at "compareOp NotIn")
  k_with "mine:binaryOp FloorDiv int int" => (k_here; (with_reducible refine' fdiv_r ?me ?mk2 ?mk3 ?_); (case me => first | assumption | exact rfl); (case mk2 => first | decide | omega); (case mk3 => first | decide | omega); intro t'w)
  k_with "mine:binaryOp Mod int int" => (k_here; (with_reducible refine' fmod_r ?me ?mk2 ?_); (case me => first | assumption | exact rfl); (case mk2 => first | decide | omega); intro t'w)
  k_with "mine enterC" => (refine' code_defPC ?mk1 ?mk2 ?mk3 ?mk4 ?mk5 ?mkA ?mkF ?mkK ?mk6 ?mk7 ?mk8 ?mk9 ?mkB ?mkD ?_ ?mc2 ?mc3 ?mc4; (case mkA => exact rfl); (case mkF => exact rfl); (case mkK => assumption); (case mk1 => k_asm); (case mk2 => k_asm); (case mk3 => k_asm); (case mk4 => k_asm); (case mk5 => k_asm); (case mk6 => k_is); (case mk7 => k_is); (case mk8 => ktr_room); (case mk9 => exact BindsTo.of_eq rfl); (case mkB => exact rfl); (case mkD => decide +kernel); (case mc2 => exact rfl); (case mc3 => exact rfl); (case mc4 => exact rfl); k_whole; intro g'w L'w h'w tk'w cells'w hH'w FG'w F'w N'w Y'w B'w X'w T'w l1'w; (try k_lt l1'w); k_cells Y'w; (try simp only [List.cons_append, List.nil_append] at N'w); (try dsimp only); (try k_lift B'w); (try k_fold); refine cut ?_; intro qq'w hq'w; refine letA ?_; intro A1'w)
  k_with "mine startC" => (dsimp only [Ctr]; k_fill; intros; refine wpAny_call ?_; k_dflt (k_extra "mine enterC"))
  k_with "mine:CTup" => (k_here; k_dflt (refine CTup.at (by rfl) (by k_asm) (by k_asm) (by k_mem) (by exact Nat.le_of_ble_eq_true rfl) ?_; intro g'w; lcg_lit))
  k_with "mine:CTupT" => (k_here; k_dflt (refine CTupT.at (by rfl) (by k_asm) (by k_asm) (by k_mem) (by exact Nat.le_of_ble_eq_true rfl) ?_; intro g'w; lct_lit))
  k_with "mine:pyIter ref" => (k_here; (with_reducible show wpAny _ _ (pyIter (Value.ref _)) (fun it s₂ => TurnsAt _ _ _ _ _ _ _ _ _ it s₂) _ _); ktu_seq)
  k_with "mine updF" => (first | (refine' UpdF.head ?ma; (case ma => k_extra "mine off")) | (refine' UpdF.tail ?ma ?mb; (case ma => k_ne); (case mb => k_extra "mine updF")))
  k_with "mine:storeName" => (k_here; k_dflt (first
    | (refine' storeX_L ?mF ?mN ?_ ?ma ?mb; (case ma => rfl); (case mb => rfl); (case mF => k_asm); (case mN => k_asm); k_whole; intro h'w F'w N'w; (try k_sweep))
    | (refine' storeX_C ?mF ?mN ?mc ?mU ?md ?_ ?ma ?mb; (case ma => rfl); (case mb => rfl); (case mF => k_asm); (case mN => k_asm); (case mc => rfl); (case mU => k_extra "mine updF"); (case md => k_asm); k_whole; intro h'w o'w F'w N'w d'w; (try dsimp only at N'w); (try k_sweep))))
  k_with "mine:CompSrc" => (k_here; k_dflt (refine LCg.CompSrc.ledger (by rfl) (by k_asm) (by k_asm) (by k_mem) (by exact Nat.le_of_ble_eq_true rfl) ?_; intro g'w; lcg_lit))
  k_with "mine enterC" => (refine' code_defPC2 ?mkb ?mk1 ?mk2 ?mk3 ?mk4 ?mk5 ?mkA ?mkF ?mkK ?mk6 ?mk7 ?mk8 ?mk9 ?mkB ?mkD ?mkE ?mkG ?_ ?mc2 ?mc3 ?mc4; (case mkb => assumption); (case mkA => exact rfl); (case mkF => exact rfl); (case mkK => assumption); (case mk1 => k_asm); (case mk2 => k_asm); (case mk3 => k_asm); (case mk4 => k_asm); (case mk5 => k_asm); (case mk6 => k_is); (case mk7 => k_is); (case mk8 => ktr_room); (case mk9 => exact BindsTo.of_eq rfl); (case mkB => exact rfl); (case mkD => decide +kernel); (case mkE => intro _; rfl); (case mkG => intro _; rfl); (case mc2 => exact rfl); (case mc3 => exact rfl); (case mc4 => exact rfl); k_whole; intro g'w L'w h'w tk'w cells'w hH'w FG'w F'w N'w Y'w B'w X'w T'w l1'w; (try k_lt l1'w); k_cells Y'w; (try simp only [List.cons_append, List.nil_append] at N'w); (try dsimp only); (try k_lift B'w); (try k_fold); refine cut ?_; intro qq'w hq'w; refine letA ?_; intro A1'w)
  trivial
theorem ksetP58_35 : True := by
  k_with "mine:eval ListComp" => (k_here; k_dflt (refine LCg.ListComp_U (F₀ := by k_asm) (by with_unfolding_all rfl) (by decide) (by rfl) (by decide) (by rfl) ?_))
  k_with "mine:call ref" => (k_here; (with_reducible show wpAny _ _ (call (Value.ref 117) _) _ _ _); k_dflt (refine' use_bool (holds_c _ _ _ _ _ _ _ _ _ _ ?mpa ?mpb ?mpc ?mpd _ _ _ _) ?mk1 ?mk2 ?mk3 ?mk4 ?mk5 ?mk6 ?mk7 ?mk8 ?mk9 ?_; k_extra "mine use"; (case mpa => assumption); (case mpb => assumption); (case mpc => assumption); (case mpd => assumption)); intro h'w tk'w F'w N'w)
  k_with "mine:exec For Name Name cons nil" => (k_here; (rename Fr _ _ _ _ => lF'w); (with_unfolding_all refine' For_turns lF'w ?_; k_whole))
  k_with "mine:pyIter ref" => (k_here; (with_reducible show wpAny _ _ (pyIter (Value.ref _)) (fun it s₂ => TurnsAt _ _ _ _ _ _ _ _ _ it s₂) _ _); (refine' iter_listTurns (lo := wsN _ _) ?mhh ?mF ?mN ?mm ?mc ?md ?_; (case mhh => rfl); (case mF => k_asm); (case mN => k_asm); (case mm => k_mem); (case mc => rfl); (case md => rfl)); intro I'w l1'w; (try k_lt l1'w))
  k_with "mine:UnrEndW" => (refine' UnrEndW.introB ?mF ?mN ?mhI ?mhk ?moff ?mhm; (case mF => k_asm); (case mN => k_asm); (case mhI => k_subL); (case mhk => k_subL); (case moff => ktu_offL); (case mhm => (intro y hy; (simp only [List.mem_cons, List.not_mem_nil, or_false, not_or] at hy); first | (k_extra "mine same"; done) | rfl | (simp +zetaDelta [hy]; done))))
  trivial

theorem law_all : PySem.Challenge.rw_pe0121_01.Holds := by
  refine hd ?_
  k_go0
  (all_goals try k_fold)
  iterate 19 (k_extra "mine step")
  rename IntsAre _ (List.take _ _) => hT
  rcases take_cases hT with e | ⟨n, t, e⟩
  · subst e
    clear hT
    iterate 20 (first | ((with_reducible show ItemsRest _ _ _ _ _ _ _ _ _ _ _ _ _ _ _); skip) | k_extra "mine step" | skip)
    refine' ItemsRest.invB [Str.ofString "x"] PNum ?hs ?hv ?turn ?done
    case hs => k_subL
    case hv => exact pnum_two
    case turn =>
      intro v u h tk hv F
      refine named ?_
      intro Gt kt
      obtain ⟨x, tx, rfl, hx0, hx1⟩ := hv
      obtain ⟨P, hP, eP⟩ := fig10 x
      obtain ⟨Q, hQ, eQ⟩ := fig10 (x.fdiv 10)
      obtain ⟨R, hR, eR⟩ := fig10 (x.fdiv 100)
      obtain ⟨K, hK, eK⟩ := fig3 (x.fdiv 1000)
      generalize e1 : x.fdiv 10 = y1 at *
      generalize e2 : x.fdiv 100 = y2 at *
      generalize e3 : x.fdiv 1000 = y3 at *
      refine kt ?_
      clear kt
      simp only [dirt] at F
      ktu_objs
      rename News _ _ _ _ => N
      (try dsimp only [envOf] at F N)
      (try k_fold)
      refine cut2 ?_
      intro q3 hq3
      k_steps
    case done =>
      intro u h tk F N
      simp only [dirt] at F
      (try dsimp only [envOf] at F N)
      (try dsimp only)
      k_steps
  · subst e
    clear hT
    iterate 29 (first | ((with_reducible show ItemsRest _ _ _ _ _ _ _ _ _ _ _ _ _ _ _); skip) | k_extra "mine step" | skip)
    refine' ItemsRest.invB [Str.ofString "x"] PNum ?hs ?hv ?turn ?done
    case hs => k_subL
    case hv => exact pnum_three
    case turn =>
      intro v u h tk hv F
      refine named ?_
      intro Gt kt
      obtain ⟨x, tx, rfl, hx0, hx1⟩ := hv
      obtain ⟨P, hP, eP⟩ := fig10 x
      obtain ⟨Q, hQ, eQ⟩ := fig10 (x.fdiv 10)
      obtain ⟨R, hR, eR⟩ := fig10 (x.fdiv 100)
      obtain ⟨K, hK, eK⟩ := fig3 (x.fdiv 1000)
      generalize e1 : x.fdiv 10 = y1 at *
      generalize e2 : x.fdiv 100 = y2 at *
      generalize e3 : x.fdiv 1000 = y3 at *
      refine kt ?_
      clear kt
      simp only [dirt] at F
      ktu_objs
      rename News _ _ _ _ => N
      (try dsimp only [envOf] at F N)
      (try k_fold)
      refine cut2 ?_
      intro q3 hq3
      k_steps
    case done =>
      intro u h tk F N
      simp only [dirt] at F
      (try dsimp only [envOf] at F N)
      (try dsimp only)
      k_steps
end
end Mine
theorem PySem.Challenge.cw_pe0121_01_holds : PySem.Challenge.rw_pe0121_01.Holds := by
  exact Mine.law_all
