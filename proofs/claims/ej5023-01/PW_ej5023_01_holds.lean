import PyProof.Rows.All
import Wide.All
import OpenK.AllK
import Wide.FinOn
import Lean
import PySem.Challenge.RW_ej5023_01
open PySem PySem.W PySem.Calls PyProof.Rows
set_option Elab.async false
set_option maxRecDepth 100000
namespace Mine

set_option maxHeartbeats 8000000 in
open_top hd for PySem.Challenge.rw_ej5023_01

def endSign (c : Nat) : Bool := c != 91 && c != 93 && c != 40 && c != 41 && c != 44
def endOk (e : Str) : Bool := decide (e.length ≤ 16) && PyData.strOk e && e.cps.toList.all endSign
abbrev EndOk (e : Str) : Prop := endOk e = true
theorem endOk_int {v : Int} (h0 : 0 ≤ v) (h1 : v < 2000000) : EndOk (Str.ofString (toString (v - 1000000))) := by
  have hs := int_sign (v - 1000000)
  have hl : (Str.ofString (toString (v - 1000000))).length ≤ 16 := by
    have := PyProof.Rows.ofString_length (toString (v - 1000000))
    have h2 := int_text_length_le10 (a := v - 1000000) (k := 8) (by omega) (by omega)
    rw [String.length_toList] at this
    omega
  have all : ∀ c ∈ (Str.ofString (toString (v - 1000000))).cps.toList, (48 ≤ c ∧ c ≤ 57) ∨ c = 45 := by
    rw [Str.ofString_eq_toList]
    intro c hc
    simp only [List.mem_map] at hc
    obtain ⟨ch, hm, rfl⟩ := hc
    rcases hs ch hm with h | rfl
    · exact .inl (digit_range h)
    · exact .inr rfl
  unfold EndOk endOk PyData.strOk
  simp only [Bool.and_eq_true, decide_eq_true_eq, List.all_eq_true, Array.all_eq_true_iff_forall_mem]
  refine ⟨⟨hl, fun c hc => ?_⟩, fun c hc => ?_⟩
  · rcases all c (Array.mem_toList_iff.mpr hc) with h | h <;> omega
  · unfold endSign
    rcases all c hc with h | rfl
    · simp only [Bool.and_eq_true, bne_iff_ne]; omega
    · rfl

local macro_rules | `(tactic| k_all) => `(tactic| assumption)
local macro_rules | `(tactic| k_mem) => `(tactic| assumption)

abbrev stObj (sl : Addr) (k : Int) (t : Tok) (nn : Nat) : Obj := listOf #[.ref sl, .int k t] nn

set_option maxHeartbeats 4000000 in
theorem next_c {w : World} {p : Program} {loose : List Str} {mean : ExcName → Option Value} {mg mb : Str → Option Value}
    {dp un : Nat} {gd : Option (List Code)} {cn : Str} {cs : Scope} {a : Addr} {ccd : Value} {cl : List (Str × Addr)} {outer : List Env} {A₀ : Around} {base h₀ : Heap} {L : Addr} {m : Str → Option Value} {s : Shared} {Q E : Value → Shared → Prop}
    {st sl : Addr} {vs : List Value} {ns : List Int} {k : Int} {t : Tok} {nn nl : Nat} {lim : Int} {tl : Tok} {rest : List (Addr × Obj)}
    (B : Below A₀ base outer h₀) (F : Fr h₀ L s.heap m) (X : (Mine.hd.heap_39 w.params).In h₀)
    (N : News h₀ L s.heap ((st, listOf #[.ref sl, .int k t] nn) :: (sl, listOf vs.toArray nl) :: rest)) (T : Top p loose mean mg mb h₀) (hk : cs.kind = .function)
    (hi : IntsAre vs ns) (hlen : ns.length ≤ 63) (hk0 : 0 ≤ k) (hk1 : k ≤ 1000) (hl0 : 0 < lim) (hl1 : lim ≤ 2000000)
    (hne : @Ne Nat sl st) (hrest : ∀ p ∈ rest, p.1 ≠ st)
    (hdp : dp + 1 < recursionLimit) (hun : un + 8 < cLine)
    (hret : ∀ v t t' h' tk', 0 ≤ v → v < lim → Fr h₀ L h' m → News h₀ L h' ((st, listOf #[.ref sl, .int (k+1) t'] nn) :: (sl, listOf vs.toArray nl) :: rest) → Q (.int v t) { s with heap := h', toks := tk' }) :
    wpAny (model PySem.Challenge.rw_ej5023_01.row.prog w) (ktrTop dp un gd cn cs L a ccd cl outer) (call (.ref 78) [.ref st, .int lim tl]) Q E s := by
  w_top off; revert X; k_fill; intro X
  refine wpAny_call ?_
  k_dflt cell_enter
  k_steps
  · exact hret _ _ _ _ _ (by omega) hl0 (by assumption) (by assumption)
  · exact hret _ _ _ _ _ (fmod_lo _ hl0) (fmod_hi _ hl0) (by assumption) (by assumption)

theorem news_sub {h₀ h : Heap} {L : Addr} {a b : List (Addr × Obj)} (N : News h₀ L h a) (hs : ∀ p ∈ b, p ∈ a) : News h₀ L h b := fun p hp => N p (hs p hp)

theorem sel_in {x y : Addr × Obj} {own rest : List (Addr × Obj)} (hy : y ∈ own ++ x :: rest) : ∀ q ∈ x :: y :: (own ++ rest), q ∈ own ++ x :: rest := by
  intro q hq
  simp only [List.mem_cons, List.mem_append] at hq hy ⊢
  rcases hq with rfl | rfl | hq | hq
  · exact .inr (.inl rfl)
  · exact hy
  · exact .inl hq
  · exact .inr (.inr hq)
theorem sel_out {x y : Addr × Obj} {own rest : List (Addr × Obj)} : ∀ q ∈ own ++ x :: rest, q ∈ x :: y :: (own ++ rest) := by
  intro q hq
  simp only [List.mem_cons, List.mem_append] at hq ⊢
  rcases hq with hq | hq | hq
  · exact .inr (.inr (.inl hq))
  · exact .inl hq
  · exact .inr (.inr (.inr hq))
theorem pow6 : ((10 : Int) ^ Int.toNat 6) = 1000000 := by decide
theorem pow6b : ((2 : Int) * 10 ^ Int.toNat 6) = 2000000 := by decide
theorem next_u {w : World} {p : Program} {loose : List Str} {mean : ExcName → Option Value} {mg mb : Str → Option Value}
    {dp un : Nat} {gd : Option (List Code)} {cn : Str} {cs : Scope} {a : Addr} {ccd : Value} {cl : List (Str × Addr)} {outer : List Env} {A₀ : Around} {base h₀ : Heap} {L : Addr} {m : Str → Option Value} {s : Shared} {Q E : Value → Shared → Prop}
    {st sl : Addr} {vs : List Value} {ns : List Int} {k : Int} {t : Tok} {nn nl : Nat} {lim : Int} {tl : Tok} {news : List (Addr × Obj)} {g : Obj → List (Addr × Obj)}
    (B : Below A₀ base outer h₀) (F : Fr h₀ L s.heap m) (X : (Mine.hd.heap_39 w.params).In h₀)
    (N : News h₀ L s.heap news) (T : Top p loose mean mg mb h₀) (hk : cs.kind = .function)
    (U : UpdF st (listOf #[.ref sl, .int k t] nn) news g) (hsl : (sl, listOf vs.toArray nl) ∈ news)
    (hi : IntsAre vs ns) (hlen : ns.length ≤ 63) (hk0 : 0 ≤ k) (hk1 : k ≤ 1000) (hl0 : 0 < lim) (hl1 : lim ≤ 2000000)
    (hne : @Ne Nat sl st)
    (hdp : dp + 1 < recursionLimit) (hun : un + 8 < cLine)
    (hret : ∀ v t t' h' tk', 0 ≤ v → v < lim → Fr h₀ L h' m → News h₀ L h' (g (listOf #[.ref sl, .int (k+1) t'] nn)) → Q (.int v t) { s with heap := h', toks := tk' }) :
    wpAny (model PySem.Challenge.rw_ej5023_01.row.prog w) (ktrTop dp un gd cn cs L a ccd cl outer) (call (.ref 78) [.ref st, .int lim tl]) Q E s := by
  obtain ⟨own, rest, rfl, hg, h1, h2⟩ := U.split
  refine next_c (st := st) (sl := sl) (vs := vs) (t := t) (nn := nn) (nl := nl) (rest := own ++ rest) (hrest := fun q hq => (List.mem_append.mp hq).elim (h1 q) (h2 q)) B F X (news_sub N ?_) T hk hi hlen hk0 hk1 hl0 hl1 hne hdp hun fun v t t' h' tk' a b F' N' => hret v t t' h' tk' a b F' ?_
  · exact sel_in hsl
  · rw [hg]; exact news_sub N' sel_out



local macro_rules | `(tactic| walk_at "call ref") => `(tactic| (k_here; (with_reducible show wpAny _ _ (call (Value.ref 78) _) _ _ _); k_dflt (refine' next_u ?B ?F ?X ?N ?T ?hk ?U ?hsl ?hi ?hlen ?hk0 ?hk1 ?hl0 ?hl1 ?hne ?hdp ?hun ?_; (case B => k_asm); (case F => k_asm); (case X => k_asm); (case N => k_asm); (case T => k_asm); (case hk => first | exact rfl | assumption); (case U => k_updF); (case hsl => k_mem); (case hi => assumption); (case hlen => assumption); (case hk0 => omega); (case hk1 => omega); (case hl0 => decide); (case hl1 => decide); (case hne => omega); (case hdp => ktr_room); (case hun => ktr_units); k_whole); intro v' t' t1' h' tk' hv0 hv1 F' N'; (try rw [pow6b] at hv1); (try dsimp only at N'); (try dsimp only); (try k_fold)))
local macro_rules | `(tactic| walk_at "call type:str") => `(tactic| (rw [pow6]; walk_at "call type:str"))

set_option maxHeartbeats 4000000 in
theorem end_c {w : World} {p : Program} {loose : List Str} {mean : ExcName → Option Value} {mg mb : Str → Option Value}
    {dp un : Nat} {gd : Option (List Code)} {cn : Str} {cs : Scope} {a : Addr} {ccd : Value} {cl : List (Str × Addr)} {outer : List Env} {A₀ : Around} {base h₀ : Heap} {L : Addr} {m : Str → Option Value} {s : Shared} {Q E : Value → Shared → Prop}
    {st sl : Addr} {vs : List Value} {ns : List Int} {k : Int} {t : Tok} {nn nl : Nat} {rest : List (Addr × Obj)}
    (B : Below A₀ base outer h₀) (F : Fr h₀ L s.heap m) (X : (Mine.hd.heap_39 w.params).In h₀)
    (N : News h₀ L s.heap ((st, listOf #[.ref sl, .int k t] nn) :: (sl, listOf vs.toArray nl) :: rest)) (T : Top p loose mean mg mb h₀) (hk : cs.kind = .function)
    (hi : IntsAre vs ns) (hlen : ns.length ≤ 63) (hk0 : 0 ≤ k) (hk1 : k ≤ 990)
    (hne : @Ne Nat sl st) (hrest : ∀ p ∈ rest, p.1 ≠ st)
    (hdp : dp + 2 < recursionLimit) (hun : un + 16 < cLine)
    (hret : ∀ e k' t t' h' tk', EndOk e → k ≤ k' → k' ≤ k + 2 → Fr h₀ L h' m → News h₀ L h' ((st, listOf #[.ref sl, .int k' t'] nn) :: (sl, listOf vs.toArray nl) :: rest) → Q (.str e t) { s with heap := h', toks := tk' }) :
    wpAny (model PySem.Challenge.rw_ej5023_01.row.prog w) (ktrTop dp un gd cn cs L a ccd cl outer) (call (.ref 85) [.ref st]) Q E s := by
  w_top off; revert X; k_fill; intro X
  refine wpAny_call ?_
  k_dflt cell_enter
  k_steps
  all_goals (refine hret _ _ _ _ _ _ ?_ ?_ ?_ (by assumption) (by assumption))
  all_goals first | omega | decide +kernel | exact endOk_int (by omega) (by omega)

theorem end_u {w : World} {p : Program} {loose : List Str} {mean : ExcName → Option Value} {mg mb : Str → Option Value}
    {dp un : Nat} {gd : Option (List Code)} {cn : Str} {cs : Scope} {a : Addr} {ccd : Value} {cl : List (Str × Addr)} {outer : List Env} {A₀ : Around} {base h₀ : Heap} {L : Addr} {m : Str → Option Value} {s : Shared} {Q E : Value → Shared → Prop}
    {st sl : Addr} {vs : List Value} {ns : List Int} {k : Int} {t : Tok} {nn nl : Nat} {news : List (Addr × Obj)} {g : Obj → List (Addr × Obj)}
    (B : Below A₀ base outer h₀) (F : Fr h₀ L s.heap m) (X : (Mine.hd.heap_39 w.params).In h₀)
    (N : News h₀ L s.heap news) (T : Top p loose mean mg mb h₀) (hk : cs.kind = .function)
    (U : UpdF st (listOf #[.ref sl, .int k t] nn) news g) (hsl : (sl, listOf vs.toArray nl) ∈ news)
    (hi : IntsAre vs ns) (hlen : ns.length ≤ 63) (hk0 : 0 ≤ k) (hk1 : k ≤ 990)
    (hne : @Ne Nat sl st)
    (hdp : dp + 2 < recursionLimit) (hun : un + 16 < cLine)
    (hret : ∀ e k' t t' h' tk', EndOk e → k ≤ k' → k' ≤ k + 2 → Fr h₀ L h' m → News h₀ L h' (g (listOf #[.ref sl, .int k' t'] nn)) → Q (.str e t) { s with heap := h', toks := tk' }) :
    wpAny (model PySem.Challenge.rw_ej5023_01.row.prog w) (ktrTop dp un gd cn cs L a ccd cl outer) (call (.ref 85) [.ref st]) Q E s := by
  obtain ⟨own, rest, rfl, hg, h1, h2⟩ := U.split
  refine end_c (st := st) (sl := sl) (vs := vs) (t := t) (nn := nn) (nl := nl) (rest := own ++ rest) (hrest := fun q hq => (List.mem_append.mp hq).elim (h1 q) (h2 q)) B F X (news_sub N ?_) T hk hi hlen hk0 hk1 hne hdp hun fun e k' t t' h' tk' a b c F' N' => hret e k' t t' h' tk' a b c F' ?_
  · exact sel_in hsl
  · rw [hg]; exact news_sub N' sel_out

local macro_rules | `(tactic| walk_at "call ref") => `(tactic| (k_here; (with_reducible show wpAny _ _ (call (Value.ref 85) _) _ _ _); k_dflt (refine' end_u ?B ?F ?X ?N ?T ?hk ?U ?hsl ?hi ?hlen ?hk0 ?hk1 ?hne ?hdp ?hun ?_; (case B => k_asm); (case F => k_asm); (case X => k_asm); (case N => k_asm); (case T => k_asm); (case hk => first | exact rfl | assumption); (case U => k_updF); (case hsl => k_mem); (case hi => assumption); (case hlen => assumption); (case hk0 => omega); (case hk1 => omega); (case hne => omega); (case hdp => ktr_room); (case hun => ktr_units); k_whole); intro e' k' t' t1' h' tk' hE' hv0 hv1 F' N'; (try dsimp only at N'); (try dsimp only); (try k_fold)))

def stmtAt (i : Nat) : Stmt := (PySem.Challenge.pw_ej5023_01.main.body[i]?).getD (.Pass ⟨0, 0, 0, 0⟩)
def fnBody : Stmt → List Stmt
  | .FunctionDef _ _ b _ _ _ _ _ _ _ => b
  | _ => []
def fnParams : Stmt → Arguments
  | .FunctionDef _ a _ _ _ _ _ _ _ _ => a
  | _ => { posonlyargs := [], args := [], vararg := none, kwonlyargs := [], kw_defaults := [], kwarg := none, defaults := [] }
def fnScope : Stmt → Scope
  | .FunctionDef _ _ _ _ _ _ s _ _ _ => s
  | _ => { kind := .function, names := [], isGenerator := false, isCoroutine := false, more := [] }
def inner (i : Nat) : Stmt := ((fnBody (stmtAt i))[0]?).getD (.Pass ⟨0, 0, 0, 0⟩)
/-- the inner def of _multirange_in -/
abbrev fDef : Stmt := inner 4
abbrev gDef : Stmt := inner 3
abbrev rDef : Stmt := inner 10
abbrev fObj (cl : List (Str × Addr)) (doc pm : Value) (c : Addr) (ct : Value) : Obj :=
  fnMade (Str.ofString "f") (Str.ofString "_multirange_in.<locals>.f") (fnParams fDef) (fnBody fDef) (fnScope fDef) cl doc pm c ct
abbrev gObj (cl : List (Str × Addr)) (doc pm : Value) (c : Addr) (ct : Value) : Obj :=
  fnMade (Str.ofString "range_in") (Str.ofString "_range_in.<locals>.range_in") (fnParams gDef) (fnBody gDef) (fnScope gDef) cl doc pm c ct
abbrev rObj (cl : List (Str × Addr)) (doc pm : Value) (c : Addr) (ct : Value) : Obj :=
  fnMade (Str.ofString "_law_reader") (Str.ofString "_law_listener.<locals>._law_reader") (fnParams rDef) (fnBody rDef) (fnScope rDef) cl doc pm c ct

theorem fr_mem {env : Env} {L b : Addr} {outer : List Env} (hf : env.frame = some L) (hm : b ∈ (env :: outer).filterMap (·.frame)) : b = L ∨ b ∈ outer.filterMap (·.frame) := by
  obtain ⟨e, he, hb⟩ := List.mem_filterMap.mp hm
  rcases List.mem_cons.mp he with rfl | he
  · rw [hf] at hb; exact .inl (Option.some.inj hb).symm
  · exact .inr (List.mem_filterMap.mpr ⟨e, he, hb⟩)

/-- an exception just made leaves the frame that made it -/
theorem leaveX_new {M : Model} {A : Around} {E : Value → Shared → Prop} {s' : Shared} {base g h : Heap} {outer : List Env} {L e : Addr} {m : Str → Option Value} {env : Env} {Q : Unit → Shared → Prop} {news : List (Addr × Obj)} {cls : String}
    (K : Below A base outer g) (hx : Heap.NewExc h s'.heap e cls) (F : Fr g L h m) (N : News g L h news) (hf : env.frame = some L) (hk : env.scope.kind = .function)
    (hQ : ∀ h', RaisedSN base g outer e (.type cls) news h' → g.UpToSlots h' → Q () { s' with heap := h' }) :
    wpAny M (A.deeper env) (leaving env (.ref e)) Q E s' := by
  have K' := pushX K F hf hk
  let fs := (env :: outer).filterMap (·.frame)
  have hin : ∀ e' ∈ (env :: outer), ∀ b, e'.frame = some b → b ∈ fs := fun e' he b hb => List.mem_filterMap.mpr ⟨e', he, hb⟩
  have fromB : ∀ b ∈ fs, base.get? b = none := fun b hb => (K'.frames.mem hb).1
  have st : base.StaysIn (hideAll h fs) := fun b o q => hideAll_get _ (K'.stays b o q) fun hm => by
    rw [fromB b hm] at q; cases q
  have gl : g.get? L = none := kts_self F
  have sg : ∀ b o, g.get? b = some o → b ∉ outer.filterMap (·.frame) → (hideAll h fs).get? b = some o := fun b o q nm => hideAll_get _ (F.keep b o q) fun hm => by
    rcases fr_mem hf hm with z | z
    · rw [z, gl] at q; cases q
    · exact nm z
  have hl : ∀ q ∈ news, (hideAll h fs).get? q.1 = some q.2 ∧ g.get? q.1 = none ∧ base.get? q.1 = none := fun q hq => by
    have n := N q hq
    refine ⟨hideAll_get _ n.1 fun hm => ?_, n.2.2, fresh_of_stays K.stays n.2.2⟩
    rcases fr_mem hf hm with z | z
    · exact n.2.1 z
    · obtain ⟨o, ho, _⟩ := (K.frames.mem z).2
      rw [n.2.2] at ho; cases ho
  obtain ⟨ob, tp, he, hcls, hd⟩ := hx.there
  have hen : (hideAll h fs).get? e = none := by
    cases q : (hideAll h fs).get? e with
    | none => rfl
    | some o => have := of_hideAll _ q; rw [hx.new] at this; cases this
  refine wpAny_leaving_firstW (a0 := tp) K'.stack ((funFrames_hide K'.frames hin).of_keeps fun b o hb _ => ⟨o, hx.keeps b o hb, rfl⟩) hf he (fun b o hb => hx.keeps b o (of_hideAll _ hb)) hen hd rfl rfl fun h' hL => ?_
  obtain ⟨k1, ⟨_, _, k2⟩, k3, k4⟩ := hL
  exact hQ h' ⟨_, tp, st, sg, hl, k1, hen, k2, by rw [← hcls]; exact k3⟩ (((Heap.UpToSlots.of_keeps F.keep).trans (Heap.UpToSlots.of_keeps hx.keeps)).trans k4)

/-- an exception on its way leaves a frame above -/
theorem leaveX_on {M : Model} {A : Around} {E : Value → Shared → Prop} {s' : Shared} {base g G : Heap} {outer : List Env} {L e : Addr} {m : Str → Option Value} {env : Env} {Q : Unit → Shared → Prop} {news : List (Addr × Obj)} {cls : Value}
    (K : Below A base outer g) (F : Fr g L G m) (R : RaisedSN base G (env :: outer) e cls news s'.heap) (hsm : G.UpToSlots s'.heap) (hf : env.frame = some L)
    (hQ : ∀ h', RaisedSN base g outer e cls news h' → g.UpToSlots h' → Q () { s' with heap := h' }) :
    wpAny M (A.deeper env) (leaving env (.ref e)) Q E s' := by
  obtain ⟨B, a0, hB, hBG, hl, hfl⟩ := R
  refine wpAny_leaves_onW (Around.frames_deeper K.stack) hf hfl fun h' x1 x2 => hQ h' ⟨B, a0, hB, fun b o q nm => hBG b o (F.keep b o q) fun hm => ?_, fun q hq => ?_, x1⟩ ((Heap.UpToSlots.of_keeps F.keep).trans (hsm.trans x2))
  · rcases fr_mem hf hm with z | z
    · rw [z, kts_self F] at q; cases q
    · exact nm z
  · have n := hl q hq
    exact ⟨n.1, kts_none F.keep n.2.1, n.2.2⟩
theorem raised_fewer {base G : Heap} {l : List Env} {e : Addr} {cls : Value} {news news' : List (Addr × Obj)} {h : Heap} (R : RaisedSN base G l e cls news h) (hs : ∀ p ∈ news', p ∈ news) : RaisedSN base G l e cls news' h := by
  obtain ⟨B, a0, hB, hBG, hl, hfl⟩ := R
  exact ⟨B, a0, hB, hBG, fun q hq => hl q (hs q hq), hfl⟩
theorem len_led {prog : Program} {w : World} {A : Around} {E : Value → Shared → Prop} {s : Shared} {h₀ : Heap} {L D : Addr} {news : List (Addr × Obj)} {vs : List Value} {n : Nat} {Q : Value → Shared → Prop}
    (N : News h₀ L s.heap news) (hm : (D, listOf vs.toArray n) ∈ news) (hz : vs.length ≤ 1000000) (h : Q (.int (vs.length : Nat) (s.toks + 1)) { s with toks := s.toks + 1 + 1 }) :
    wpAny (model prog w) A (call (.builtin "len") [.ref D]) Q E s := by
  refine Calls.call_len_list (items := vs.toArray) ⟨_, (N _ hm).1, rfl, n, rfl⟩ (by simp; omega) ?_
  rw [List.size_toArray]
  exact h
theorem fr_ext {h₀ h : Heap} {L : Addr} {m m' : Str → Option Value} (F : Fr h₀ L h m) (e : ∀ y, m' y = m y) : Fr h₀ L h m' := by
  have q : m' = m := funext e
  rw [q]; exact F

/-- an exception on its way, whatever its last entry's flight says -/
def RaisedAny (base G : Heap) (l : List Env) (e : Addr) (cls : Value) (news : List (Addr × Obj)) (h : Heap) : Prop :=
  ∃ (B : Heap) (a0 fl : Value), base.StaysIn B ∧ (∀ b o, G.get? b = some o → b ∉ l.filterMap (·.frame) → B.get? b = some o) ∧ (∀ q ∈ news, B.get? q.1 = some q.2 ∧ G.get? q.1 = none ∧ base.get? q.1 = none) ∧
    B.StaysIn h ∧ B.get? e = none ∧ h.FunFrames B l ∧ h.TracedAtW B e cls a0 fl

theorem leaves_any {M : Model} {A : Around} {E : Value → Shared → Prop} {s : Shared} {base : Heap} {env : Env} {outer : List Env} {L e : Addr} {cls a0 fl : Value} {Q : Unit → Shared → Prop}
    (hfr : A.frames = some (env :: outer)) (hf : env.frame = some L) (f1 : base.StaysIn s.heap) (f2 : base.get? e = none) (f3 : s.heap.FunFrames base (env :: outer)) (f4 : s.heap.TracedAtW base e cls a0 fl)
    (hQ : ∀ h', Heap.FlyingW base outer e cls a0 h' → s.heap.UpToSlots h' → Q () { s with heap := h' }) : wpAny M A (leaving env (.ref e)) Q E s := by
  by_cases hfl : fl = rawInt L
  · subst hfl
    have hh : Heap.HeldW base (env :: outer) e cls a0 L s.heap := ⟨f1, f2, f3, f4⟩
    unfold leaving
    refine wpAny_bind (wpAny_noteFrame_againW hf f4 ?_)
    refine wpAny_landsW hh fun h' k hs => ?_
    obtain ⟨k1, k2, ⟨_, _, k3⟩, k4⟩ := k
    exact hQ h' ⟨k1, k2, k3, k4⟩ hs
  · obtain ⟨oe, vs, T, oT, ts, he, ⟨hcls, h0⟩, hd, h1, hnT, hTe, hT, hdT, h3⟩ := f4
    subst hcls
    have other : ∀ b, b ≠ T → (s.heap.update T (Obj.mapFields (·.setIfInBounds 3 Value.none))).get? b = s.heap.get? b := fun b hb => Heap.get?_update_other _ _ (Ne.symm hb)
    have noRec : ∀ b o, s.heap.get? b = some o → (∀ vs, o.data ≠ .fields vs) → b ≠ T := fun b o hb hnf q => by
      rw [q, hT] at hb; injection hb with hb; subst hb; exact hnf ts hdT
    unfold leaving noteFrame
    simp only [hf]
    refine wpAny_bind (wpAny_bind (wpAny_field he hd h1 ?_))
    rw [if_pos (show (Value.ref T != Value.none) = true from by simp)]
    refine wpAny_bind (wpAny_field hT hdT h3 ?_)
    rw [if_neg (show ¬ ((fl == rawInt L) = true) from fun q => hfl (eq_of_beq q))]
    refine wpAny_bind (wpAny_setField hT hdT (Array.getElem?_eq_some_iff.mp h3).1 ?_)
    refine wpAny_newEntryW hfr (f3.of_keeps fun b o hb hnf => ⟨o, (other b (noRec b o hb hnf)).trans hb, rfl⟩) hf ((other e (Ne.symm hTe)).trans he)
      (fun b o hbo => (other b fun q => by rw [q, hnT] at hbo; cases hbo).trans (f1 b o hbo)) f2 hd (Array.getElem?_eq_some_iff.mp h1).1 h0 fun h' hL => ?_
    obtain ⟨k1, ⟨_, _, k2⟩, k3, k4⟩ := hL
    exact hQ h' ⟨k1, f2, k2, k3⟩ fun b o hb hnf => k4 b o ((other b (noRec b o hb hnf)).trans hb) hnf

theorem leaveX_any {M : Model} {A : Around} {E : Value → Shared → Prop} {s' : Shared} {base g G : Heap} {outer : List Env} {L e : Addr} {m : Str → Option Value} {env : Env} {Q : Unit → Shared → Prop} {news : List (Addr × Obj)} {cls : Value}
    (K : Below A base outer g) (F : Fr g L G m) (R : RaisedAny base G (env :: outer) e cls news s'.heap) (hsm : G.UpToSlots s'.heap) (hf : env.frame = some L)
    (hQ : ∀ h', RaisedSN base g outer e cls news h' → g.UpToSlots h' → Q () { s' with heap := h' }) :
    wpAny M (A.deeper env) (leaving env (.ref e)) Q E s' := by
  obtain ⟨B, a0, fl, hB, hBG, hl, f1, f2, f3, f4⟩ := R
  refine leaves_any (Around.frames_deeper K.stack) hf f1 f2 f3 f4 fun h' x1 x2 => hQ h' ⟨B, a0, hB, fun b o q nm => hBG b o (F.keep b o q) fun hm => ?_, fun q hq => ?_, x1⟩ ((Heap.UpToSlots.of_keeps F.keep).trans (hsm.trans x2))
  · rcases fr_mem hf hm with z | z
    · rw [z, kts_self F] at q; cases q
    · exact nm z
  · have n := hl q hq
    exact ⟨n.1, kts_none F.keep n.2.1, n.2.2⟩

/-- the flight is set anew -/
theorem setFlight_any {M : Model} {A : Around} {E : Value → Shared → Prop} {s : Shared} {base : Heap} {l : List Env} {e : Addr} {cls a0 fl : Value} {fr : Option Addr} {Q : Unit → Shared → Prop}
    (f1 : base.StaysIn s.heap) (f3 : s.heap.FunFrames base l) (f4 : s.heap.TracedAtW base e cls a0 fl)
    (h : ∀ h', base.StaysIn h' → h'.FunFrames base l → h'.TracedAtW base e cls a0 (fr.elim Value.none fun f => rawInt f) → s.heap.UpToSlots h' → Q () { s with heap := h' }) : wpAny M A (setFlight (.ref e) fr) Q E s := by
  obtain ⟨oe, vs, T, oT, ts, he, hcls, hd, h1, hnT, hTe, hT, hdT, h3⟩ := f4
  have hsz3 : 3 < ts.size := (Array.getElem?_eq_some_iff.mp h3).1
  have other : ∀ b, b ≠ T → (s.heap.update T (Obj.mapFields (·.setIfInBounds 3 (fr.elim Value.none fun f => rawInt f)))).get? b = s.heap.get? b := fun b hb => Heap.get?_update_other _ _ (Ne.symm hb)
  have noRec : ∀ b o, s.heap.get? b = some o → (∀ vs, o.data ≠ .fields vs) → b ≠ T := fun b o hb hnf q => by
    rw [q, hT] at hb; injection hb with hb; subst hb; exact hnf ts hdT
  unfold setFlight
  refine wpAny_bind (wpAny_field he hd h1 ?_)
  rw [if_pos (show (Value.ref T != Value.none) = true from by simp)]
  refine wpAny_setField hT hdT hsz3 (h _ (fun b o hbo => (other b fun q => by rw [q, hnT] at hbo; cases hbo).trans (f1 b o hbo))
    (f3.of_keeps fun b o hb hnf => ⟨o, (other b (noRec b o hb hnf)).trans hb, rfl⟩) ?_ fun b o hb hnf => ⟨o.slots, (other b (noRec b o hb hnf)).trans hb⟩)
  exact ⟨oe, vs, T, _, _, (other e (Ne.symm hTe)).trans he, hcls, hd, h1, hnT, hTe, Heap.get?_update_self _ hT (Obj.isFreed_of_fields (Obj.data_mapFields hdT _)), Obj.data_mapFields hdT _, by simp [hsz3]⟩

theorem noteFrame_frame {e : Value} {env env' : Env} (h : env'.frame = env.frame) : noteFrame e env' = noteFrame e env := by
  unfold noteFrame PySem.frameOf
  rw [h]

/-- the block's own names change: what flies is as it was, without them -/
theorem funFrames_but {B h h' : Heap} {C : Addr} {oC : Obj} (hB : B.get? C = some oC) (hs : Heap.SameBut C h h') : ∀ {l : List Env}, h.FunFrames B l → h'.FunFrames (B.hide C) l
  | [], _ => trivial
  | _ :: _, ⟨hk, ⟨L, o, hf, hn, ho, hd⟩, hr⟩ => by
    have hLC : L ≠ C := fun q => by rw [q, hB] at hn; cases hn
    have hn' : (B.hide C).get? L = none := by
      cases q : (B.hide C).get? L with
      | none => rfl
      | some o' => rw [Heap.of_hide q] at hn; cases hn
    exact ⟨hk, ⟨L, o, hf, hn', hs.extBut L o hLC ho, hd⟩, funFrames_but hB hs hr⟩
theorem traced_but {B h h' : Heap} {C e : Addr} {oC : Obj} {cls a0 fl : Value} (hB : B.get? C = some oC) (he₀ : B.get? e = none) (hs : Heap.SameBut C h h') (x : h.TracedAtW B e cls a0 fl) : h'.TracedAtW (B.hide C) e cls a0 fl := by
  obtain ⟨oe, vs, T, oT, ts, he, hcls, hd, h1, hnT, hTe, hT, hdT, h3⟩ := x
  refine ⟨oe, vs, T, oT, ts, hs.extBut e oe (fun q => by rw [q, hB] at he₀; cases he₀) he, hcls, hd, h1, ?_, hTe, hs.extBut T oT (fun q => by rw [q, hB] at hnT; cases hnT) hT, hdT, h3⟩
  cases q : (B.hide C).get? T with
  | none => rfl
  | some o' => rw [Heap.of_hide q] at hnT; cases hnT

/-- what is thrown out of a comprehension's element, its names still standing (at C) -/
def CompBad (base : Heap) (l : List Env) (h₀ : Heap) (L : Addr) (m : Str → Option Value) (s : Shared) (C : Addr) (Bad : List (Addr × Obj) → Prop) (e : Value) (s' : Shared) : Prop :=
  ∃ (a : Addr) (G : Heap) (oC : Obj) (m₂ : Str → Option Value) (nx : List (Addr × Obj)) (h : Heap) (tk : Nat), e = .ref a ∧ s' = { s with heap := h, toks := tk } ∧ LCg.NsObj oC m₂ ∧ (∀ q ∈ nx, q.1 ≠ C) ∧ Fr h₀ L G m ∧ RaisedSN base G l a (.type "ValueError") ((C, oC) :: nx) h ∧ G.UpToSlots h ∧ Bad nx

/-- out of the element, through the block's notes, to the statement's own end -/
theorem compBad_out {M : Model} {A : Around} {E : Value → Shared → Prop} {s s' : Shared} {base h₀ : Heap} {outer : List Env} {L C acc : Addr} {m : Str → Option Value} {env cenv : Env} {Bad : List (Addr × Obj) → Prop} {e : Value} {Q : Value → Shared → Prop}
    (hA : A.frames = some (env :: outer)) (hf : env.frame = some L) (hc : cenv.frame = env.frame)
    (X : CompBad base (env :: outer) h₀ L m s C Bad e s')
    (h : ∀ a G nx h' tk', Bad nx → Fr h₀ L G m → RaisedAny base G (env :: outer) a (.type "ValueError") nx h' → G.UpToSlots h' → E (.ref a) { s with heap := h', toks := tk' }) :
    notedBy M A cenv (fun e s' => compPost M A E none Q (.ref acc) C (.error e) s') e s' := by
  obtain ⟨a, G, oC, m₂, nx, h₁, tk, rfl, rfl, hoC, hnx, FG, ⟨B, a0, hB, hBG, hl, hfl⟩, hsm, hb⟩ := X
  unfold notedBy
  rw [noteFrame_frame hc]
  refine wpAny_looks_onW hA hf hfl fun h₄ hh sm => ?_
  have hC := hl _ (List.mem_cons_self)
  obtain ⟨k1, k2, k3, k4⟩ := hh
  refine ⟨m₂, hoC.ns (k1 _ _ hC.1), fun h₅ hs cenv' _ => ?_⟩
  have hide_ne : ∀ b o, b ≠ C → B.get? b = some o → (B.hide C).get? b = some o := fun b o n q => (Heap.hide_ne B n).trans q
  have k4' := traced_but hC.1 k2 hs k4
  have k3' := funFrames_but hC.1 hs k3
  have k1' : (B.hide C).StaysIn h₅ := fun b o q => by
    have n : b ≠ C := fun z => by rw [z, Heap.hide_self] at q; cases q
    exact hs.extBut b o n (k1 b o (Heap.of_hide q))
  have k2' : (B.hide C).get? a = none := by
    cases q : (B.hide C).get? a with
    | none => rfl
    | some o' => rw [Heap.of_hide q] at k2; cases k2
  have up : G.UpToSlots h₅ := fun b o q nf => by
    obtain ⟨sl, hsl⟩ := (hsm.trans sm) b o q nf
    exact ⟨sl, hs.extBut b _ (fun z => by rw [z, hC.2.1] at q; cases q) hsl⟩
  obtain ⟨oe, vs, T, oT, ts, he, hcls, hd, h1, hnT, hTe, hT, hdT, h3⟩ := id k4'
  unfold PySem.passOn
  refine wpAny_bind (wpAny_field he hd h1 ?_)
  rw [if_neg (show ¬ ((Value.ref T == Value.none) = true) from by simp)]
  have fin : wpAny M A (setFlight (.ref a) cenv'.frame) (fun _ s₂ => wpAny M A (throw (Value.ref a) : Sem Value) (fun _ _ => False) E s₂) E { s with heap := h₅, toks := tk } :=
    setFlight_any k1' k3' k4' fun h' x1 x2 x3 x4 => wpAny_throw (h a G nx h' tk hb FG ⟨B.hide C, a0, _, fun b o q => hide_ne b o (fun z => by rw [z, hC.2.2] at q; cases q) (hB b o q),
      fun b o q nm => hide_ne b o (fun z => by rw [z, hC.2.1] at q; cases q) (hBG b o q nm), fun q hq => ?_, x1, k2', x2, x3⟩ (up.trans x4))
  · first
      | exact wpAny_bind fin
      | exact wpAny_bind (wpAny_pure (wpAny_bind fin))
  · have n := hl q (List.mem_cons_of_mem _ hq)
    exact ⟨hide_ne _ _ (hnx q hq) n.1, n.2⟩

/-- where a comprehension's clause stands: its list, what holds between the turns, the turn, the end, a raise -/
def CompAt (prog : Program) (w : World) (A : Around) (base h₀ : Heap) (L : Addr) (m : Str → Option Value) (env : Env) (outer : List Env) (elt : Expr) (x : Str) (scope : Scope) (cl : List (Str × Addr)) (Q E : Value → Shared → Prop) (xv : Value) (s₁ : Shared) : Prop :=
  ∃ (ax : Addr) (its : Array Value) (k : Nat) (news : List (Addr × Obj)) (J : Nat → List Value → List (Addr × Obj) → Prop) (Bad : List (Addr × Obj) → Prop),
    xv = .ref ax ∧ Fr h₀ L s₁.heap m ∧ News h₀ L s₁.heap news ∧ (∀ i ys nx, J i ys nx → (ax, ({ cls := .type "list", data := .seq its k } : Obj)) ∈ nx) ∧ its.size ≤ sizeLine ∧ J 0 [] news ∧
    (∀ i v ys nx I oI C oC D m₂ h tk, its[i]? = some v → J i ys nx → LCg.NsObj oC m₂ → m₂ x = some v → Fr h₀ L h m → News h₀ L h ((I, oI) :: (C, oC) :: (D, LCg.lst ys) :: nx) → LCg.Off3 I C D nx → ((@Ne Nat I C) ∧ (@Ne Nat I D) ∧ (@Ne Nat C D)) →
      wpAny (model prog w) A (eval elt (compEnvC scope cl C env)) (fun y s₂ => ∃ h' tk' nx', s₂ = { s₁ with heap := h', toks := tk' } ∧ Fr h₀ L h' m ∧ News h₀ L h' ((I, oI) :: (C, oC) :: (D, LCg.lst ys) :: nx') ∧ LCg.Off3 I C D nx' ∧ J (i + 1) (ys ++ [y]) nx')
        (CompBad base (env :: outer) h₀ L m s₁ C Bad) { s₁ with heap := h, toks := tk }) ∧
    (∀ D h tk ys nx, J its.size ys nx → Fr h₀ L h m → News h₀ L h ((D, LCg.lst ys) :: nx) → LCg.Off1 D nx → Q (.ref D) { s₁ with heap := h, toks := tk }) ∧
    (∀ a G nx h' tk', Bad nx → Fr h₀ L G m → RaisedAny base G (env :: outer) a (.type "ValueError") nx h' → G.UpToSlots h' → E (.ref a) { s₁ with heap := h', toks := tk' })

theorem comp_x {prog : Program} {w : World} {A : Around} {E : Value → Shared → Prop} {s : Shared} {base h₀ : Heap} {outer : List Env} {L : Addr} {m : Str → Option Value} {env : Env} {elt iter : Expr} {x : Str} {px : Pos} {scope : Scope} {cl : List (Str × Addr)} {pos : Pos} {Q : Value → Shared → Prop}
    (_F : Fr h₀ L s.heap m) (hh : A.handled = none) (hA : A.frames = some (env :: outer)) (hfe : env.frame = some L)
    (hclos : closureFor scope env = pure cl) (hcell : ∀ y ∈ scope.names, y.2 ≠ .cell) (hkind : scope.kind = .function)
    (hnames : ∀ y ∈ scope.names, y.2 = .local → scope.names.lookup y.1 = some .local) (hx : scope.names.lookup x = some .local)
    (h : wpAny (model prog w) A (eval iter env) (CompAt prog w A base h₀ L m env outer elt x scope cl Q E) E s)
    (hs : ∀ x, foldedSetIterable iter env x = pure x := by intro _; rfl) :
    wpAny (model prog w) A (eval (.ListComp elt [⟨.Name x px, iter, [], 0⟩] scope pos) env) Q E s := by
  rw [eval_ListComp]
  refine wpAny_comprehension_free (use := none) rfl hs hclos hkind hnames (wpAny_mono h (fun xv s₁ h₁ => ?_) fun _ _ e => e)
  obtain ⟨ax, its, k, news, J, Bad, rfl, F, N, hsrc, hsz, hJ0, turn, done, bad⟩ := h₁
  have hlist : ∀ i ys nx h, J i ys nx → News h₀ L h nx → h.IsList ax its := fun i ys nx h hJ Nh => ⟨_, (Nh _ (hsrc i ys nx hJ)).1, rfl, k, rfl⟩
  have hl := hlist _ _ _ _ hJ0 N
  have hlt : @LT.lt Nat _ ax s₁.heap.objs.size := by obtain ⟨_, e, _⟩ := hl; exact Heap.lt_size e
  refine wpAny_pyIter_list hl ?_
  generalize hI : s₁.heap.objs.size = I at *
  have W := Walks.list (prog := prog) (w := w) hh I ax (Nat.ne_of_lt hlt) its
  generalize hH1 : s₁.heap.push { cls := .type "list_iterator", data := .fields #[.ref ax, .int 0 0] } = H1
  have up1 : ∀ b o, s₁.heap.get? b = some o → H1.get? b = some o := fun b o e => hH1 ▸ Heap.get?_push_of_some _ e
  have sz1 : H1.objs.size = I + 1 := by rw [← hH1, Heap.size_push, hI]
  have hst0 : H1.IsListIter I ax 0 ∧ H1.IsList ax its := by
    refine ⟨?_, hl.at fun o e => up1 _ o e⟩
    rw [← hH1, ← hI]; exact ⟨_, Heap.get?_push_size _ rfl, rfl, rfl⟩
  have F1 : Fr h₀ L H1 m := F.keeps up1
  have N1 : News h₀ L H1 news := N.grown up1
  have hLI : @LT.lt Nat _ L I := hI ▸ F.ns.lt
  refine wpAny_newObj_type (wpAny_newFunctionEnv hcell (by intro y hy; simp at hy) (fun h₁ hns₁ hsb₁ => ?_) hkind)
  dsimp only at hns₁ hsb₁ ⊢
  generalize hH2 : H1.push { cls := .type "list", dict := none, data := .seq ([] : List Value).toArray } = H2 at hns₁ hsb₁ ⊢
  have sz2 : H2.objs.size = I + 2 := by rw [← hH2, Heap.size_push, sz1]
  have up2 : ∀ b o, H1.get? b = some o → H2.get? b = some o := fun b o e => hH2 ▸ Heap.get?_push_of_some _ e
  generalize hC : H2.objs.size = C at *
  generalize hD : H1.objs.size = D at *
  have hDC : @Ne Nat D C := by omega
  have hDI : @Ne Nat D I := by omega
  have hCI : @Ne Nat C I := by omega
  have hLD : @Ne Nat D L := by omega
  have hLC : @Ne Nat C L := by omega
  have fresh₀ : ∀ a, I ≤ a → h₀.get? a = none := fun a ha => by
    cases e : h₀.get? a with
    | none => rfl
    | some o' => exact absurd (hI ▸ Heap.lt_size (F.keep a o' e)) (Nat.not_lt.mpr ha)
  have hI₀ := fresh₀ I (Nat.le_refl _)
  have hD₀ := fresh₀ D (by omega)
  have hC₀ := fresh₀ C (by omega)
  have old : ∀ b o, H1.get? b = some o → h₁.get? b = some o := fun b o e => hsb₁.extBut b o (fun q => by have h9 : @LT.lt Nat _ b H1.objs.size := Heap.lt_size e; have q9 : @Eq Nat b C := q; omega) (Heap.get?_push_of_some _ (up2 b o e))
  have hacc : h₁.get? D = some (LCg.lst []) := hsb₁.extBut _ _ hDC (Heap.get?_push_of_some _ (by rw [← hH2, ← hD]; exact Heap.get?_push_size _ rfl))
  have offN : ∀ p ∈ news, @LT.lt Nat _ p.1 I := fun p hp => hI ▸ Heap.lt_size (N p hp).1
  have off₀ : LCg.Off3 I C D news := LCg.Off3.of fun p hp => by have := offN p hp; exact ⟨neN (by omega), neN (by omega), neN (by omega)⟩
  have loop : ∀ s₃ : Shared, s₃ = { s₁ with heap := h₁, toks := s₁.toks + ([] : List (Str × Value)).length } →
      codeAny (model prog w) A (.compLoop (.ListComp elt [⟨.Name x px, iter, [], 0⟩] scope pos) 0 (.ref I) (.ref D) (compEnvC scope cl C env)) (compPost (model prog w) A E none Q (.ref D) C) s₃ := by
    rintro s₃ rfl
    refine codeAny_compLoop_tests
      (fun n s' => ∃ h' tk i ys m' nx, s' = { s₁ with heap := h', toks := tk } ∧ i ≤ its.size ∧ n = its.size + 1 - i ∧ ys.length = i ∧ (h'.IsListIter I ax i ∧ h'.IsList ax its) ∧ Fr h₀ L h' m ∧ h'.Ns C m' ∧ News h₀ L h' ((D, LCg.lst ys) :: nx) ∧
        LCg.Off3 I C D nx ∧ J i ys nx) ?_ (its.size + 1)
      ⟨h₁, _, 0, [], _, news, rfl, Nat.zero_le _, rfl, rfl, W.frame _ _ _ hst0 (fun b _ o e => old b o e), F1.keeps old, hns₁, fun p hp => ?_, off₀, hJ0⟩
    · rintro n s' ⟨h', tk, i, ys, m', nx, rfl, hi, rfl, hyl, hst', F', hn', N', off', hJ⟩
      have off3 := off'.mem
      by_cases hlt' : i < its.size
      · refine W.item i _ _ _ hlt' hst' fun v h₂ tk₂ hPv hst₂ hk₂ => ?_
        refine wpAny_assign_Name (wpAny_storeName_local (lookup_relabel_local hx) (hn'.at' fun o e => hk₂ _ o (by simpa using hCI) e) (fun h₃ hn₃ hs₃ => ?_) (by simp [compEnvC, relabel, hkind]))
        refine wpAny_tests_nil ?_
        simp only [if_true]
        have hCfp : C ∉ [I, ax] := by
          intro hm
          rcases List.mem_cons.mp hm with q | hm
          · exact hCI q
          · have q9 : @Eq Nat C ax := List.mem_singleton.mp hm; omega
        have hst₃ : h₃.IsListIter I ax (i + 1) ∧ h₃.IsList ax its := W.frame _ _ _ hst₂ fun b hb o e => hs₃.extBut b o (fun q => hCfp (by have q' : b = C := q; rw [← q']; exact hb)) e
        obtain ⟨⟨oI, heI, rI⟩, _⟩ := id hst₃
        obtain ⟨oC, heC, hoC⟩ := LCg.ns_obj hn₃
        have F₃ : Fr h₀ L h₃ m := (LCg.fr_but F' hk₂ (Nat.ne_of_lt hLI) hI₀).change hs₃ hLC hC₀
        have N₂ : News h₀ L h₂ ((D, LCg.lst ys) :: nx) := LCg.news_but N' hk₂ fun p hp => by
          rcases List.mem_cons.mp hp with rfl | hp
          · exact hDI
          · exact (off3 p hp).1
        have N₃ : News h₀ L h₃ ((I, oI) :: (C, oC) :: (D, LCg.lst ys) :: nx) := fun p hp => by
          rcases List.mem_cons.mp hp with rfl | hp
          · exact ⟨heI, Ne.symm (Nat.ne_of_lt hLI), hI₀⟩
          · rcases List.mem_cons.mp hp with rfl | hp
            · exact ⟨heC, hLC, hC₀⟩
            · have z := N₂ p hp
              refine ⟨hs₃.extBut _ _ ?_ z.1, z.2⟩
              rcases List.mem_cons.mp hp with rfl | hp
              · exact hDC
              · exact (off3 p hp).2.1
        refine wpAny_mono (turn i v ys nx I oI C oC D _ h₃ _ hPv hJ hoC (by simp) F₃ N₃ off' ⟨Ne.symm hCI, Ne.symm hDI, Ne.symm hDC⟩) (fun y s₄ h₄ => ?_) fun e s₅ h₅ => compBad_out hA hfe rfl h₅ bad
        obtain ⟨h₄, tk₄, nx₄, rfl, F₄, N₄, off₄, hJ₄⟩ := h₄
        have zI := (N₄ (I, oI) List.mem_cons_self).1
        have zC := (N₄ (C, oC) (List.mem_cons_of_mem _ List.mem_cons_self)).1
        have zD := (N₄ (D, LCg.lst ys) (List.mem_cons_of_mem _ (List.mem_cons_of_mem _ List.mem_cons_self))).1
        have N₄' : News h₀ L h₄ nx₄ := fun p hp => N₄ p (List.mem_cons_of_mem _ (List.mem_cons_of_mem _ (List.mem_cons_of_mem _ hp)))
        have off4 := off₄.mem
        have hst₄ : h₄.IsListIter I ax (i + 1) ∧ h₄.IsList ax its := ⟨⟨oI, zI, rI⟩, hlist _ _ _ _ hJ₄ N₄'⟩
        refine append_at (hsz := by show ys.toArray.size ≤ sizeLine; rw [List.size_toArray, hyl]; exact Nat.le_trans hi hsz) zD fun h₅ hs₅ hD₅ => ?_
        have hDfp : D ∉ [I, ax] := by
          intro hm
          rcases List.mem_cons.mp hm with q | hm
          · exact hDI q
          · have q9 : @Eq Nat D ax := List.mem_singleton.mp hm; omega
        refine ⟨its.size + 1 - (i + 1), by omega, h₅, tk₄, i + 1, ys ++ [y], _, nx₄, rfl, hlt', rfl, by rw [List.length_append, List.length_singleton, hyl], W.frame _ _ _ hst₄ (fun b hb o e => hs₅.extBut b o (fun q => hDfp (q ▸ hb)) e), F₄.change hs₅ hLD hD₀,
          (hoC.ns zC).sameBut hs₅ (Ne.symm hDC), fun p hp => ?_, off₄, hJ₄⟩
        rcases List.mem_cons.mp hp with rfl | hp
        · exact ⟨hD₅.trans (congrArg some (LCg.lst_snoc ys y)), hLD, hD₀⟩
        · exact ⟨hs₅.extBut _ _ (off4 p hp).2.2 (N₄' p hp).1, (N₄' p hp).2⟩
      · obtain rfl : i = its.size := Nat.le_antisymm hi (Nat.not_lt.mp hlt')
        refine W.done _ _ _ hst' fun h₂ tk₂ hk₂ => ?_
        have Fd := LCg.fr_but F' hk₂ (Nat.ne_of_lt hLI) hI₀
        have Nd : News h₀ L h₂ ((D, LCg.lst ys) :: nx) := LCg.news_but N' hk₂ fun p hp => by
          rcases List.mem_cons.mp hp with rfl | hp
          · exact hDI
          · exact (off3 p hp).1
        refine ⟨m', hn'.at' fun o e => hk₂ _ o (by simpa using hCI) e, fun h'' hs'' => done D h'' tk₂ ys nx hJ (Fd.change hs'' hLC hC₀) (fun p hp => ?_) off'.one⟩
        refine ⟨hs''.extBut _ _ ?_ (Nd p hp).1, (Nd p hp).2⟩
        rcases List.mem_cons.mp hp with rfl | hp
        · exact hDC
        · exact (off3 p hp).2.1
    · rcases List.mem_cons.mp hp with rfl | hp
      · exact ⟨hacc, hLD, hD₀⟩
      · exact ⟨old _ _ (N1 p hp).1, (N1 p hp).2⟩
  exact codeAny_compStart_list (loop _ rfl) (W.self 0 _ _ _ (W.frame _ _ _ hst0 fun b _ o e => old b o e) (loop _ rfl))

section
variable {prog : Program} {w : World} {A₀ A : Around} {s : Shared} {base h₀ g₀ : Heap} {outer : List Env} {L a : Addr} {m : Str → Option Value} {env : Env} {news : List (Addr × Obj)} {K : Frag} {p : Program} {loose : List Str} {mean : ExcName → Option Value} {mg mb : Str → Option Value}
    {R : Result → Shared → Prop} {name qual : Str} {params : Arguments} {body : List Stmt} {scope : Scope} {dV kV doc pm cdv ct oc : Value} {an od : Option Addr} {osl : Array (Option Value)} {f : Addr} {args : Args} {binds : List (Str × Value)}
theorem enterX (B : Below A₀ base outer h₀) (F : Fr h₀ L s.heap m) (N : News h₀ L s.heap news) (hA : A.frames = some (env :: outer)) (hf : env.frame = some L) (hck : env.scope.kind = .function) :
    ∃ oL es ep, (hideAll s.heap (news.map (·.1))).get? L = some oL ∧ oL.data = .dict es ep ∧ (∀ h', h'.get? L = some oL → Heap.Ns h' L m) ∧ (∀ (sl : Array (Option Value)) h', h'.get? L = some { oL with slots := sl } → Heap.Ns h' L m) ∧
      h₀.StaysIn (hideAll s.heap (news.map (·.1))) ∧ Below A base (env :: outer) (hideAll s.heap (news.map (·.1))) := by
  have nm : ∀ b o, h₀.get? b = some o → b ∉ news.map (·.1) := fun b o e q => by
    obtain ⟨p, hp, rfl⟩ := List.mem_map.mp q
    rw [(N p hp).2.2] at e; cases e
  have st : h₀.StaysIn (hideAll s.heap (news.map (·.1))) := fun b o e => hideAll_get _ (F.keep b o e) (nm b o e)
  obtain ⟨oL, es, ep, hL, hLd, hLk, hLf⟩ := F.ns
  have nL : L ∉ news.map (·.1) := fun q => by
    obtain ⟨p, hp, e⟩ := List.mem_map.mp q
    exact (N p hp).2.1 e
  have hLg := hideAll_get (news.map (·.1)) hL nL
  have B₁ := pushX B F hf hck
  exact ⟨oL, es, ep, hLg, hLd, fun h' e => ⟨oL, es, ep, e, hLd, hLk, hLf⟩, fun sl h' e => ⟨_, es, ep, e, hLd, hLk, hLf⟩, st, ⟨hA, fun b o e => st b o (B.stays b o e), funFrames_hideAll B₁.frames fun env' he b hb hf' => by
    cases he with
    | head => rw [hf] at hf'; exact nL ((Option.some.inj hf' : L = b) ▸ hb)
    | tail _ he =>
      obtain ⟨L₁, o₁, hf₁, ho₁⟩ := funFrames_in B.frames env' he
      rw [hf₁] at hf'
      exact nm L₁ o₁ ho₁ ((Option.some.inj hf' : L₁ = b) ▸ hb)⟩⟩

theorem code_defSX (B : Below A₀ base [] h₀) (F : Fr h₀ L s.heap m) (X₀ : K.In h₀) (N : News h₀ L s.heap news) (T : Top p loose mean mg mb h₀) (hA : A.frames = some [env]) (hf : env.frame = some L) (hck : env.scope.kind = .function)
    (ho : K.lookup f = some ⟨oc, od, .func (fnOf name qual params body scope dV kV doc pm an cdv ct), osl⟩) (hcd : codeIn K cdv qual = true) (hroom : A.depth < recursionLimit)
    (hbind : BindsTo s (fnOf name qual params body scope dV kV doc pm an cdv ct) args binds) (hloc : ∀ y ∈ binds, scope.names.lookup y.1 = some .local)
    (h : ∀ g L' h₁, Fr h₀ L g m → Fr g L' h₁ (fun y => binds.reverse.lookup y) → News g L' h₁ news → Below A base [env] g → K.In g → Top p loose mean mg mb g → KtsDicts ([env].filterMap (·.frame)) g →
      wpAny (model prog w) (A.deeper (envOf qual scope L' f cdv)) (execs body (envOf qual scope L' f cdv))
        (fun fl s' => LeaveS0 ([env].filterMap (·.frame)) h₀ L m g R (match fl with | .ret v => v | _ => .none) s')
        (fun e s' => wpAny (model prog w) (A.deeper (envOf qual scope L' f cdv)) (leaving (envOf qual scope L' f cdv) e) (fun _ s'' => R (.error e) s'') (fun e' s'' => R (.error e') s'') s')
        { s with heap := h₁, toks := s.toks + binds.length })
    (hco : scope.isCoroutine = false) (hgen : scope.isGenerator = false) (hk : scope.kind = .function)
    (hcell : ∀ x ∈ scope.names, x.2 ≠ .cell) : codeAny (model prog w) A (.call (.ref f) args) R s := by
  have X := X₀.keeps F.keep
  have mem1 : ∀ {b}, b ∈ [env].filterMap (·.frame) → b = L := fun hb => by
    rcases fr_mem hf hb with z | z
    · exact z
    · cases z
  refine codeAny_call_def (fd := fnOf name qual params body scope dV kV doc pm an cdv ct) (body := body) (binds := binds) hroom (X _ _ ho) rfl (T.nolimit.keeps F.keep) (codeRec_of X hcd) rfl hbind hcell hloc (fun h₁ hns hk₁ => ?_) hco hgen hk
  obtain ⟨oL, es, ep, hLg, hLd, hN, hNs, st, B₂⟩ := enterX B F N hA hf hck
  refine wpAny_mono (h _ s.heap.objs.size h₁ ⟨hN _ hLg, st, F.above⟩ ⟨hns, fun b o e => hk₁ b o (of_hideAll _ e), Nat.le_of_eq (hideAll_size _ _)⟩
    (fun p hp => ⟨hk₁ _ _ (N p hp).1, Nat.ne_of_lt (Heap.lt_size (N p hp).1), hideAll_none _ (List.mem_map_of_mem hp)⟩) B₂ (X₀.keeps st) (T.keeps st) (fun b hb => by
      rw [mem1 hb]
      exact ⟨oL, es, ep, hLg, hLd⟩)) (fun fl s' hl => ?_) fun _ _ y => y
  obtain ⟨g', L', m', news', T', F', N', k⟩ := hl
  have nL₀ : h₀.get? L = none := kts_self F
  obtain ⟨sl, hs⟩ := T'.up hLg
  refine k ⟨hNs sl _ (F'.keep _ _ hs), fun b o e => F'.keep b o (T'.other b o (st b o e) (fun q => by
    rw [mem1 q, nL₀] at e
    cases e)), F.above⟩ fun p hp => ⟨(N' p hp).1, fun q => ?_, ?_⟩
  · have := (N' p hp).2.2; rw [q, hs] at this; cases this
  · cases q : h₀.get? p.1 with
    | none => rfl
    | some o =>
      obtain ⟨sl', hs'⟩ := T'.up (st _ _ q)
      have := (N' p hp).2.2
      rw [hs'] at this
      cases this
end

section
variable {prog : Program} {w : World} {A : Around} {E : Value → Shared → Prop} {s : Shared} {env : Env} {l : Addr} {elts : List Expr} {k : Nat} {pos : Pos}
theorem unpack_bad {items : Array Value} {Q : Unit → Shared → Prop} (hl : s.heap.IsList l items) (hh : A.handled = none) (hn : (assignEach elts env).length = 2)
    (hstar : (assignEach elts env).findIdx? (·.1) = none) (hk : items.size = 1 ∨ items.size = 3)
    (h : ∀ h₁ h' tk e, Heap.ExtBut s.heap.objs.size s.heap h₁ → Heap.NewExc h₁ h' e "ValueError" → E (.ref e) { s with heap := h', toks := tk }) :
    wpAny (model prog w) A (assign (.Tuple elts k pos) env (.ref l)) Q E s := by
  rw [assign_Tuple]
  refine wpAny_bind (wpAny_standAt ?_)
  unfold unpack
  rw [hn, hstar]
  refine wpAny_bind (wpAny_holding ?_)
  have hlt : l ≠ s.heap.objs.size := by obtain ⟨o, ho, _⟩ := hl; exact Nat.ne_of_lt (Heap.lt_size ho)
  unfold unpackItems
  refine wpAny_bind ?_
  unfold notIterableAtAll
  refine wpAny_bind (wpAny_specialOf hl.typeIs slot_list_iter.lookup ?_)
  refine wpAny_pure ?_
  simp only [Bool.false_eq_true, if_false]
  refine wpAny_bind (wpAny_holding (wpAny_pyIter_list hl ?_))
  rcases hk with hk | hk
  · show wpAny _ _ (holding _ (draw _ 2) >>= _) _ _ _
    have it0 : (s.heap.push { cls := .type "list_iterator", data := .fields #[.ref l, .int 0 0] }).IsListIter s.heap.objs.size l 0 := ⟨_, Heap.get?_push_size _ rfl, rfl, rfl⟩
    refine wpAny_bind (wpAny_holding ?_)
    show wpAny _ _ (pyNext (.ref s.heap.objs.size) >>= _) _ _ _
    refine wpAny_bind (wpAny_pyNext_list_item it0 (hl.push _) (x := items[0]) (by simp [hk]) fun h₁ hit₁ hs₁ => ?_)
    have hl₁ : h₁.IsList l items := (hl.push _).extBut hs₁.extBut hlt
    refine wpAny_bind (wpAny_holding ?_)
    show wpAny _ _ (pyNext (.ref s.heap.objs.size) >>= _) _ _ _
    refine wpAny_bind (wpAny_pyNext_list_end hh hit₁ hl₁ (by simp [hk]) fun h₂ he₂ => ?_)
    refine wpAny_pure (wpAny_pure ?_)
    rw [if_pos (show [items[0]].length < 2 from by simp)]
    refine wpAny_bind (wpAny_rule (wpAny_bind ?_))
    exact raiseError_exc excClass_ValueError hh (fun h' tk e hx => h h₂ h' tk e (fun b o hb e => he₂ b o hb (hs₁.extBut b o hb (Heap.get?_push_of_some _ e))) hx) (by simp only [List.length_cons, List.length_nil]; rw [PySem.sizeLine_eq]; decide +kernel)
  · refine wpAny_bind (wpAny_holding (kun_draw hlt 2 0 _ _ ⟨_, Heap.get?_push_size _ rfl, rfl, rfl⟩ (hl.push _) (by omega) fun h₁ hit₁ hs₁ => ?_))
    have hl₁ : h₁.IsList l items := (hl.push _).extBut hs₁.extBut hlt
    have hlen : (List.take 2 (List.drop 0 items.toList)).length = 2 := by simp [hk]
    rw [if_neg (by rw [hlen]; decide)]
    refine wpAny_bind (wpAny_holding (wpAny_pyNext_list_item hit₁ hl₁ (x := items[2]) (by simp [hk]) fun h₂ hit₂ hs₂ => ?_))
    simp only [Option.isSome_some, if_true]
    refine wpAny_bind (wpAny_rule (wpAny_bind ?_))
    exact raiseError_exc excClass_ValueError hh (fun h' tk e hx => h h₂ h' tk e (fun b o hb e => hs₂.extBut b o hb (hs₁.extBut b o hb (Heap.get?_push_of_some _ e))) hx) (by rw [PySem.sizeLine_eq]; decide +kernel)
end

/-- where a comprehension's clause stands: its list, what holds between the turns, the turn, the end, a raise -/
def CompAtT (prog : Program) (w : World) (A : Around) (base h₀ : Heap) (L : Addr) (m : Str → Option Value) (env : Env) (outer : List Env) (elt : Expr) (x x₂ x₃ : Str) (scope : Scope) (cl : List (Str × Addr)) (Q E : Value → Shared → Prop) (xv : Value) (s₁ : Shared) : Prop :=
  ∃ (ax : Addr) (its : Array Value) (k : Nat) (news : List (Addr × Obj)) (J : Nat → List Value → List (Addr × Obj) → Prop) (Bad : List (Addr × Obj) → Prop),
    xv = .ref ax ∧ Fr h₀ L s₁.heap m ∧ News h₀ L s₁.heap news ∧ (∀ i ys nx, J i ys nx → (ax, ({ cls := .type "list", data := .seq its k } : Obj)) ∈ nx) ∧ its.size ≤ sizeLine ∧ J 0 [] news ∧
    (∀ i v ys nx, its[i]? = some v → J i ys nx → ∃ (t : Addr) (ot : Obj) (v₁ v₂ v₃ : Value) (nt : Nat), v = .ref t ∧ (t, ot) ∈ nx ∧ ot.cls = .type "tuple" ∧ ot.data = .seq #[v₁, v₂, v₃] nt ∧
      ∀ I oI C oC D m₂ h tk, LCg.NsObj oC m₂ → m₂ x = some v₁ → m₂ x₂ = some v₂ → m₂ x₃ = some v₃ → Fr h₀ L h m → News h₀ L h ((I, oI) :: (C, oC) :: (D, LCg.lst ys) :: nx) → LCg.Off3 I C D nx → ((@Ne Nat I C) ∧ (@Ne Nat I D) ∧ (@Ne Nat C D)) →
      wpAny (model prog w) A (eval elt (compEnvC scope cl C env)) (fun y s₂ => ∃ h' tk' nx', s₂ = { s₁ with heap := h', toks := tk' } ∧ Fr h₀ L h' m ∧ News h₀ L h' ((I, oI) :: (C, oC) :: (D, LCg.lst ys) :: nx') ∧ LCg.Off3 I C D nx' ∧ J (i + 1) (ys ++ [y]) nx')
        (CompBad base (env :: outer) h₀ L m s₁ C Bad) { s₁ with heap := h, toks := tk }) ∧
    (∀ D h tk ys nx, J its.size ys nx → Fr h₀ L h m → News h₀ L h ((D, LCg.lst ys) :: nx) → LCg.Off1 D nx → Q (.ref D) { s₁ with heap := h, toks := tk }) ∧
    (∀ a G nx h' tk', Bad nx → Fr h₀ L G m → RaisedAny base G (env :: outer) a (.type "ValueError") nx h' → G.UpToSlots h' → E (.ref a) { s₁ with heap := h', toks := tk' })

theorem comp_t {prog : Program} {w : World} {A : Around} {E : Value → Shared → Prop} {s : Shared} {base h₀ : Heap} {outer : List Env} {L : Addr} {m : Str → Option Value} {env : Env} {elt iter : Expr} {x x₂ x₃ : Str} {px px₂ px₃ tp : Pos} {tk0 : Nat} {scope : Scope} {cl : List (Str × Addr)} {pos : Pos} {Q : Value → Shared → Prop}
    (_F : Fr h₀ L s.heap m) (hh : A.handled = none) (hA : A.frames = some (env :: outer)) (hfe : env.frame = some L)
    (hclos : closureFor scope env = pure cl) (hcell : ∀ y ∈ scope.names, y.2 ≠ .cell) (hkind : scope.kind = .function)
    (hnames : ∀ y ∈ scope.names, y.2 = .local → scope.names.lookup y.1 = some .local) (hx : scope.names.lookup x = some .local) (hx₂ : scope.names.lookup x₂ = some .local) (hx₃ : scope.names.lookup x₃ = some .local) (hd12 : x ≠ x₂) (hd13 : x ≠ x₃) (hd23 : x₂ ≠ x₃)
    (h : wpAny (model prog w) A (eval iter env) (CompAtT prog w A base h₀ L m env outer elt x x₂ x₃ scope cl Q E) E s)
    (hs : ∀ x, foldedSetIterable iter env x = pure x := by intro _; rfl) :
    wpAny (model prog w) A (eval (.ListComp elt [⟨.Tuple [.Name x px, .Name x₂ px₂, .Name x₃ px₃] tk0 tp, iter, [], 0⟩] scope pos) env) Q E s := by
  rw [eval_ListComp]
  refine wpAny_comprehension_free (use := none) rfl hs hclos hkind hnames (wpAny_mono h (fun xv s₁ h₁ => ?_) fun _ _ e => e)
  obtain ⟨ax, its, k, news, J, Bad, rfl, F, N, hsrc, hsz, hJ0, turn, done, bad⟩ := h₁
  have hlist : ∀ i ys nx h, J i ys nx → News h₀ L h nx → h.IsList ax its := fun i ys nx h hJ Nh => ⟨_, (Nh _ (hsrc i ys nx hJ)).1, rfl, k, rfl⟩
  have hl := hlist _ _ _ _ hJ0 N
  have hlt : @LT.lt Nat _ ax s₁.heap.objs.size := by obtain ⟨_, e, _⟩ := hl; exact Heap.lt_size e
  refine wpAny_pyIter_list hl ?_
  generalize hI : s₁.heap.objs.size = I at *
  have W := Walks.list (prog := prog) (w := w) hh I ax (Nat.ne_of_lt hlt) its
  generalize hH1 : s₁.heap.push { cls := .type "list_iterator", data := .fields #[.ref ax, .int 0 0] } = H1
  have up1 : ∀ b o, s₁.heap.get? b = some o → H1.get? b = some o := fun b o e => hH1 ▸ Heap.get?_push_of_some _ e
  have sz1 : H1.objs.size = I + 1 := by rw [← hH1, Heap.size_push, hI]
  have hst0 : H1.IsListIter I ax 0 ∧ H1.IsList ax its := by
    refine ⟨?_, hl.at fun o e => up1 _ o e⟩
    rw [← hH1, ← hI]; exact ⟨_, Heap.get?_push_size _ rfl, rfl, rfl⟩
  have F1 : Fr h₀ L H1 m := F.keeps up1
  have N1 : News h₀ L H1 news := N.grown up1
  have hLI : @LT.lt Nat _ L I := hI ▸ F.ns.lt
  refine wpAny_newObj_type (wpAny_newFunctionEnv hcell (by intro y hy; simp at hy) (fun h₁ hns₁ hsb₁ => ?_) hkind)
  dsimp only at hns₁ hsb₁ ⊢
  generalize hH2 : H1.push { cls := .type "list", dict := none, data := .seq ([] : List Value).toArray } = H2 at hns₁ hsb₁ ⊢
  have sz2 : H2.objs.size = I + 2 := by rw [← hH2, Heap.size_push, sz1]
  have up2 : ∀ b o, H1.get? b = some o → H2.get? b = some o := fun b o e => hH2 ▸ Heap.get?_push_of_some _ e
  generalize hC : H2.objs.size = C at *
  generalize hD : H1.objs.size = D at *
  have hDC : @Ne Nat D C := by omega
  have hDI : @Ne Nat D I := by omega
  have hCI : @Ne Nat C I := by omega
  have hLD : @Ne Nat D L := by omega
  have hLC : @Ne Nat C L := by omega
  have fresh₀ : ∀ a, I ≤ a → h₀.get? a = none := fun a ha => by
    cases e : h₀.get? a with
    | none => rfl
    | some o' => exact absurd (hI ▸ Heap.lt_size (F.keep a o' e)) (Nat.not_lt.mpr ha)
  have hI₀ := fresh₀ I (Nat.le_refl _)
  have hD₀ := fresh₀ D (by omega)
  have hC₀ := fresh₀ C (by omega)
  have old : ∀ b o, H1.get? b = some o → h₁.get? b = some o := fun b o e => hsb₁.extBut b o (fun q => by have h9 : @LT.lt Nat _ b H1.objs.size := Heap.lt_size e; have q9 : @Eq Nat b C := q; omega) (Heap.get?_push_of_some _ (up2 b o e))
  have hacc : h₁.get? D = some (LCg.lst []) := hsb₁.extBut _ _ hDC (Heap.get?_push_of_some _ (by rw [← hH2, ← hD]; exact Heap.get?_push_size _ rfl))
  have offN : ∀ p ∈ news, @LT.lt Nat _ p.1 I := fun p hp => hI ▸ Heap.lt_size (N p hp).1
  have off₀ : LCg.Off3 I C D news := LCg.Off3.of fun p hp => by have := offN p hp; exact ⟨neN (by omega), neN (by omega), neN (by omega)⟩
  have loop : ∀ s₃ : Shared, s₃ = { s₁ with heap := h₁, toks := s₁.toks + ([] : List (Str × Value)).length } →
      codeAny (model prog w) A (.compLoop (.ListComp elt [⟨.Tuple [.Name x px, .Name x₂ px₂, .Name x₃ px₃] tk0 tp, iter, [], 0⟩] scope pos) 0 (.ref I) (.ref D) (compEnvC scope cl C env)) (compPost (model prog w) A E none Q (.ref D) C) s₃ := by
    rintro s₃ rfl
    refine LCp.codeAny_compLoop_pair
      (fun n s' => ∃ h' tk i ys m' nx, s' = { s₁ with heap := h', toks := tk } ∧ i ≤ its.size ∧ n = its.size + 1 - i ∧ ys.length = i ∧ (h'.IsListIter I ax i ∧ h'.IsList ax its) ∧ Fr h₀ L h' m ∧ h'.Ns C m' ∧ News h₀ L h' ((D, LCg.lst ys) :: nx) ∧
        LCg.Off3 I C D nx ∧ J i ys nx) ?_ (its.size + 1)
      ⟨h₁, _, 0, [], _, news, rfl, Nat.zero_le _, rfl, rfl, W.frame _ _ _ hst0 (fun b _ o e => old b o e), F1.keeps old, hns₁, fun p hp => ?_, off₀, hJ0⟩
    · rintro n s' ⟨h', tk, i, ys, m', nx, rfl, hi, rfl, hyl, hst', F', hn', N', off', hJ⟩
      have off3 := off'.mem
      by_cases hlt' : i < its.size
      · refine W.item i _ _ _ hlt' hst' fun v h₂ tk₂ hPv hst₂ hk₂ => ?_
        obtain ⟨t, ot, v₁, v₂, v₃, nt, rfl, hmt, hct, hdt, turn'⟩ := turn i v ys nx hPv hJ
        have N₂ : News h₀ L h₂ ((D, LCg.lst ys) :: nx) := LCg.news_but N' hk₂ fun p hp => by
          rcases List.mem_cons.mp hp with rfl | hp
          · exact hDI
          · exact (off3 p hp).1
        have ht : IsTup h₂ t #[v₁, v₂, v₃] := ⟨ot, (N₂ _ (List.mem_cons_of_mem _ hmt)).1, hct, nt, hdt⟩
        refine wpAny_letOwnedTupleGo_listiter hst₂.1 ?_
        refine assign_Tuple_tuple hh ht rfl rfl fun h₅ he => ?_
        have he' : ∀ b o, h₂.get? b = some o → h₅.get? b = some o := fun b o e => he b o (Nat.ne_of_lt (Heap.lt_size e)) e
        refine assignInOrder_cons (wpAny_assign_Name (wpAny_storeName_local (lookup_relabel_local hx) ((hn'.at' fun o e => hk₂ _ o (by simpa using hCI) e).at' fun o e => he' _ o e) (fun h₆ hn₆ hs₆ => ?_) (by simp [compEnvC, relabel, hkind])))
        refine assignInOrder_cons (wpAny_assign_Name (wpAny_storeName_local (lookup_relabel_local hx₂) hn₆ (fun h₇ hn₇ hs₇ => ?_) (by simp [compEnvC, relabel, hkind])))
        refine assignInOrder_cons (wpAny_assign_Name (wpAny_storeName_local (lookup_relabel_local hx₃) hn₇ (fun h₃ hn₃ hs₃ => ?_) (by simp [compEnvC, relabel, hkind])))
        refine assignInOrder_nil ?_
        have old3 : ∀ b o, b ≠ C → h₂.get? b = some o → h₃.get? b = some o := fun b o hb e => hs₃.extBut b o hb (hs₇.extBut b o hb (hs₆.extBut b o hb (he' b o e)))
        have hCfp : C ∉ [I, ax] := by
          intro hm
          rcases List.mem_cons.mp hm with q | hm
          · exact hCI q
          · have q9 : @Eq Nat C ax := List.mem_singleton.mp hm; omega
        have hst₃ : h₃.IsListIter I ax (i + 1) ∧ h₃.IsList ax its := W.frame _ _ _ hst₂ fun b hb o e => old3 b o (fun q => hCfp (by have q' : b = C := q; rw [← q']; exact hb)) e
        obtain ⟨⟨oI, heI, rI⟩, _⟩ := id hst₃
        obtain ⟨oC, heC, hoC⟩ := LCg.ns_obj hn₃
        have F₃ : Fr h₀ L h₃ m := ((((LCg.fr_but F' hk₂ (Nat.ne_of_lt hLI) hI₀).keeps he').change hs₆ hLC hC₀).change hs₇ hLC hC₀).change hs₃ hLC hC₀
        have N₃ : News h₀ L h₃ ((I, oI) :: (C, oC) :: (D, LCg.lst ys) :: nx) := fun p hp => by
          rcases List.mem_cons.mp hp with rfl | hp
          · exact ⟨heI, Ne.symm (Nat.ne_of_lt hLI), hI₀⟩
          · rcases List.mem_cons.mp hp with rfl | hp
            · exact ⟨heC, hLC, hC₀⟩
            · have z := N₂ p hp
              refine ⟨old3 _ _ ?_ z.1, z.2⟩
              rcases List.mem_cons.mp hp with rfl | hp
              · exact hDC
              · exact (off3 p hp).2.1
        refine wpAny_mono (turn' I oI C oC D _ h₃ _ hoC (by simp [hd12, hd13]) (by simp [hd23]) (by simp) F₃ N₃ off' ⟨Ne.symm hCI, Ne.symm hDI, Ne.symm hDC⟩) (fun y s₄ h₄ => ?_) fun e s₅ h₅ => compBad_out hA hfe rfl h₅ bad
        obtain ⟨h₄, tk₄, nx₄, rfl, F₄, N₄, off₄, hJ₄⟩ := h₄
        have zI := (N₄ (I, oI) List.mem_cons_self).1
        have zC := (N₄ (C, oC) (List.mem_cons_of_mem _ List.mem_cons_self)).1
        have zD := (N₄ (D, LCg.lst ys) (List.mem_cons_of_mem _ (List.mem_cons_of_mem _ List.mem_cons_self))).1
        have N₄' : News h₀ L h₄ nx₄ := fun p hp => N₄ p (List.mem_cons_of_mem _ (List.mem_cons_of_mem _ (List.mem_cons_of_mem _ hp)))
        have off4 := off₄.mem
        have hst₄ : h₄.IsListIter I ax (i + 1) ∧ h₄.IsList ax its := ⟨⟨oI, zI, rI⟩, hlist _ _ _ _ hJ₄ N₄'⟩
        refine append_at (hsz := by show ys.toArray.size ≤ sizeLine; rw [List.size_toArray, hyl]; exact Nat.le_trans hi hsz) zD fun h₅ hs₅ hD₅ => ?_
        have hDfp : D ∉ [I, ax] := by
          intro hm
          rcases List.mem_cons.mp hm with q | hm
          · exact hDI q
          · have q9 : @Eq Nat D ax := List.mem_singleton.mp hm; omega
        refine ⟨its.size + 1 - (i + 1), by omega, h₅, tk₄, i + 1, ys ++ [y], _, nx₄, rfl, hlt', rfl, by rw [List.length_append, List.length_singleton, hyl], W.frame _ _ _ hst₄ (fun b hb o e => hs₅.extBut b o (fun q => hDfp (q ▸ hb)) e), F₄.change hs₅ hLD hD₀,
          (hoC.ns zC).sameBut hs₅ (Ne.symm hDC), fun p hp => ?_, off₄, hJ₄⟩
        rcases List.mem_cons.mp hp with rfl | hp
        · exact ⟨hD₅.trans (congrArg some (LCg.lst_snoc ys y)), hLD, hD₀⟩
        · exact ⟨hs₅.extBut _ _ (off4 p hp).2.2 (N₄' p hp).1, (N₄' p hp).2⟩
      · obtain rfl : i = its.size := Nat.le_antisymm hi (Nat.not_lt.mp hlt')
        refine W.done _ _ _ hst' fun h₂ tk₂ hk₂ => ?_
        have Fd := LCg.fr_but F' hk₂ (Nat.ne_of_lt hLI) hI₀
        have Nd : News h₀ L h₂ ((D, LCg.lst ys) :: nx) := LCg.news_but N' hk₂ fun p hp => by
          rcases List.mem_cons.mp hp with rfl | hp
          · exact hDI
          · exact (off3 p hp).1
        refine ⟨m', hn'.at' fun o e => hk₂ _ o (by simpa using hCI) e, fun h'' hs'' => done D h'' tk₂ ys nx hJ (Fd.change hs'' hLC hC₀) (fun p hp => ?_) off'.one⟩
        refine ⟨hs''.extBut _ _ ?_ (Nd p hp).1, (Nd p hp).2⟩
        rcases List.mem_cons.mp hp with rfl | hp
        · exact hDC
        · exact (off3 p hp).2.1
    · rcases List.mem_cons.mp hp with rfl | hp
      · exact ⟨hacc, hLD, hD₀⟩
      · exact ⟨old _ _ (N1 p hp).1, (N1 p hp).2⟩
  exact codeAny_compStart_list (loop _ rfl) (W.self 0 _ _ _ (W.frame _ _ _ hst0 fun b _ o e => old b o e) (loop _ rfl))

theorem range_size (n : Nat) : Builtin.Range.rangeSize 0 (n : Int) 1 = (n : Int) := by
  unfold Builtin.Range.rangeSize
  simp
  omega
/-- where a comprehension's clause stands: its list, what holds between the turns, the turn, the end, a raise -/
def CompAtR (prog : Program) (w : World) (A : Around) (base h₀ : Heap) (L : Addr) (m : Str → Option Value) (env : Env) (outer : List Env) (elt : Expr) (x : Str) (scope : Scope) (cl : List (Str × Addr)) (Q E : Value → Shared → Prop) (xv : Value) (s₁ : Shared) : Prop :=
  ∃ (ax : Addr) (n : Nat) (t₁ u₁ v₁ : Tok) (news : List (Addr × Obj)) (J : Nat → List Value → List (Addr × Obj) → Prop) (Bad : List (Addr × Obj) → Prop),
    xv = .ref ax ∧ Fr h₀ L s₁.heap m ∧ News h₀ L s₁.heap news ∧ IsRange s₁.heap ax 0 (n : Int) 1 t₁ u₁ v₁ ∧ n ≤ 1000 ∧ J 0 [] news ∧
    (∀ i v ys nx I oI C oC D m₂ h tk, (i < n ∧ ∃ t, v = .int ((i : Nat) : Int) t) → J i ys nx → LCg.NsObj oC m₂ → m₂ x = some v → Fr h₀ L h m → News h₀ L h ((I, oI) :: (C, oC) :: (D, LCg.lst ys) :: nx) → LCg.Off3 I C D nx → ((@Ne Nat I C) ∧ (@Ne Nat I D) ∧ (@Ne Nat C D)) →
      wpAny (model prog w) A (eval elt (compEnvC scope cl C env)) (fun y s₂ => ∃ h' tk' nx', s₂ = { s₁ with heap := h', toks := tk' } ∧ Fr h₀ L h' m ∧ News h₀ L h' ((I, oI) :: (C, oC) :: (D, LCg.lst ys) :: nx') ∧ LCg.Off3 I C D nx' ∧ J (i + 1) (ys ++ [y]) nx')
        (CompBad base (env :: outer) h₀ L m s₁ C Bad) { s₁ with heap := h, toks := tk }) ∧
    (∀ D h tk ys nx, J n ys nx → Fr h₀ L h m → News h₀ L h ((D, LCg.lst ys) :: nx) → LCg.Off1 D nx → Q (.ref D) { s₁ with heap := h, toks := tk }) ∧
    (∀ a G nx h' tk', Bad nx → Fr h₀ L G m → RaisedAny base G (env :: outer) a (.type "ValueError") nx h' → G.UpToSlots h' → E (.ref a) { s₁ with heap := h', toks := tk' })

theorem comp_r {prog : Program} {w : World} {A : Around} {E : Value → Shared → Prop} {s : Shared} {base h₀ : Heap} {outer : List Env} {L : Addr} {m : Str → Option Value} {env : Env} {elt iter : Expr} {x : Str} {px : Pos} {scope : Scope} {cl : List (Str × Addr)} {pos : Pos} {Q : Value → Shared → Prop}
    (_F : Fr h₀ L s.heap m) (hh : A.handled = none) (hA : A.frames = some (env :: outer)) (hfe : env.frame = some L)
    (hclos : closureFor scope env = pure cl) (hcell : ∀ y ∈ scope.names, y.2 ≠ .cell) (hkind : scope.kind = .function)
    (hnames : ∀ y ∈ scope.names, y.2 = .local → scope.names.lookup y.1 = some .local) (hx : scope.names.lookup x = some .local)
    (h : wpAny (model prog w) A (eval iter env) (CompAtR prog w A base h₀ L m env outer elt x scope cl Q E) E s)
    (hs : ∀ x, foldedSetIterable iter env x = pure x := by intro _; rfl) :
    wpAny (model prog w) A (eval (.ListComp elt [⟨.Name x px, iter, [], 0⟩] scope pos) env) Q E s := by
  rw [eval_ListComp]
  refine wpAny_comprehension_free (use := none) rfl hs hclos hkind hnames (wpAny_mono h (fun xv s₁ h₁ => ?_) fun _ _ e => e)
  obtain ⟨ax, n, t₁, u₁, v₁, news, J, Bad, rfl, F, N, hr, hn1000, hJ0, turn, done, bad⟩ := h₁
  have hsm : Builtin.Range.small 0 (n : Int) 1 = true := small_one (by decide) (by decide) (by omega) (by omega)
  have hsz : Builtin.Range.rangeSize 0 (n : Int) 1 = (n : Int) := range_size n
  refine wpAny_pyIter_range hr hsm ?_
  rw [hsz]
  generalize hI : s₁.heap.objs.size = I at *
  have W : Walks prog w A I [I] [I] n (fun i v => i < n ∧ ∃ t, v = .int (0 + i * 1) t) (fun i h => IsRangeIter h I (0 + (i : Nat) * 1) ((n : Int) - (i : Nat)) 1) := (Walks.range hh _ 0 1 n).bound
  generalize hH1 : s₁.heap.push { cls := .type "range_iterator", data := .fields #[rawInt 0, rawInt (n : Int), rawInt 1] } = H1
  have up1 : ∀ b o, s₁.heap.get? b = some o → H1.get? b = some o := fun b o e => hH1 ▸ Heap.get?_push_of_some _ e
  have sz1 : H1.objs.size = I + 1 := by rw [← hH1, Heap.size_push, hI]
  have hst0 : IsRangeIter H1 I (0 + ((0 : Nat) : Int) * 1) ((n : Int) - ((0 : Nat) : Int)) 1 := by
    rw [← hH1, ← hI]
    simpa [IsRangeIter] using Heap.get?_push_size _ rfl
  have F1 : Fr h₀ L H1 m := F.keeps up1
  have N1 : News h₀ L H1 news := N.grown up1
  have hLI : @LT.lt Nat _ L I := hI ▸ F.ns.lt
  refine wpAny_newObj_type (wpAny_newFunctionEnv hcell (by intro y hy; simp at hy) (fun h₁ hns₁ hsb₁ => ?_) hkind)
  dsimp only at hns₁ hsb₁ ⊢
  generalize hH2 : H1.push { cls := .type "list", dict := none, data := .seq ([] : List Value).toArray } = H2 at hns₁ hsb₁ ⊢
  have sz2 : H2.objs.size = I + 2 := by rw [← hH2, Heap.size_push, sz1]
  have up2 : ∀ b o, H1.get? b = some o → H2.get? b = some o := fun b o e => hH2 ▸ Heap.get?_push_of_some _ e
  generalize hC : H2.objs.size = C at *
  generalize hD : H1.objs.size = D at *
  have hDC : @Ne Nat D C := by omega
  have hDI : @Ne Nat D I := by omega
  have hCI : @Ne Nat C I := by omega
  have hLD : @Ne Nat D L := by omega
  have hLC : @Ne Nat C L := by omega
  have fresh₀ : ∀ a, I ≤ a → h₀.get? a = none := fun a ha => by
    cases e : h₀.get? a with
    | none => rfl
    | some o' => exact absurd (hI ▸ Heap.lt_size (F.keep a o' e)) (Nat.not_lt.mpr ha)
  have hI₀ := fresh₀ I (Nat.le_refl _)
  have hD₀ := fresh₀ D (by omega)
  have hC₀ := fresh₀ C (by omega)
  have old : ∀ b o, H1.get? b = some o → h₁.get? b = some o := fun b o e => hsb₁.extBut b o (fun q => by have h9 : @LT.lt Nat _ b H1.objs.size := Heap.lt_size e; have q9 : @Eq Nat b C := q; omega) (Heap.get?_push_of_some _ (up2 b o e))
  have hacc : h₁.get? D = some (LCg.lst []) := hsb₁.extBut _ _ hDC (Heap.get?_push_of_some _ (by rw [← hH2, ← hD]; exact Heap.get?_push_size _ rfl))
  have offN : ∀ p ∈ news, @LT.lt Nat _ p.1 I := fun p hp => hI ▸ Heap.lt_size (N p hp).1
  have off₀ : LCg.Off3 I C D news := LCg.Off3.of fun p hp => by have := offN p hp; exact ⟨neN (by omega), neN (by omega), neN (by omega)⟩
  have loop : ∀ s₃ : Shared, s₃ = { s₁ with heap := h₁, toks := s₁.toks + ([] : List (Str × Value)).length } →
      codeAny (model prog w) A (.compLoop (.ListComp elt [⟨.Name x px, iter, [], 0⟩] scope pos) 0 (.ref I) (.ref D) (compEnvC scope cl C env)) (compPost (model prog w) A E none Q (.ref D) C) s₃ := by
    rintro s₃ rfl
    refine codeAny_compLoop_tests
      (fun k s' => ∃ h' tk i ys m' nx, s' = { s₁ with heap := h', toks := tk } ∧ i ≤ n ∧ k = n + 1 - i ∧ ys.length = i ∧ IsRangeIter h' I (0 + (i : Nat) * 1) ((n : Int) - (i : Nat)) 1 ∧ Fr h₀ L h' m ∧ h'.Ns C m' ∧ News h₀ L h' ((D, LCg.lst ys) :: nx) ∧
        LCg.Off3 I C D nx ∧ J i ys nx) ?_ (n + 1)
      ⟨h₁, _, 0, [], _, news, rfl, Nat.zero_le _, rfl, rfl, W.frame 0 _ _ hst0 (fun b _ o e => old b o e), F1.keeps old, hns₁, fun p hp => ?_, off₀, hJ0⟩
    · rintro k s' ⟨h', tk, i, ys, m', nx, rfl, hi, rfl, hyl, hst', F', hn', N', off', hJ⟩
      have off3 := off'.mem
      by_cases hlt' : i < n
      · refine W.item i _ _ _ hlt' hst' fun v h₂ tk₂ hPv hst₂ hk₂ => ?_
        refine wpAny_assign_Name (wpAny_storeName_local (lookup_relabel_local hx) (hn'.at' fun o e => hk₂ _ o (by simpa using hCI) e) (fun h₃ hn₃ hs₃ => ?_) (by simp [compEnvC, relabel, hkind]))
        refine wpAny_tests_nil ?_
        simp only [if_true]
        have hCfp : C ∉ [I] := fun hm => hCI (List.mem_singleton.mp hm)
        have hst₃ : IsRangeIter h₃ I (0 + ((i + 1 : Nat) : Int) * 1) ((n : Int) - ((i + 1 : Nat) : Int)) 1 := W.frame (i + 1) _ _ hst₂ fun b hb o e => hs₃.extBut b o (fun q => hCfp (by have q' : b = C := q; rw [← q']; exact hb)) e
        obtain ⟨oI, heI, hoI⟩ : ∃ oI, h₃.get? I = some oI ∧ ∀ hh : Heap, hh.get? I = some oI → IsRangeIter hh I (0 + ((i + 1 : Nat) : Int) * 1) ((n : Int) - ((i + 1 : Nat) : Int)) 1 := ⟨_, hst₃, fun hh e => e⟩
        obtain ⟨oC, heC, hoC⟩ := LCg.ns_obj hn₃
        have F₃ : Fr h₀ L h₃ m := (LCg.fr_but F' hk₂ (Nat.ne_of_lt hLI) hI₀).change hs₃ hLC hC₀
        have N₂ : News h₀ L h₂ ((D, LCg.lst ys) :: nx) := LCg.news_but N' hk₂ fun p hp => by
          rcases List.mem_cons.mp hp with rfl | hp
          · exact hDI
          · exact (off3 p hp).1
        have N₃ : News h₀ L h₃ ((I, oI) :: (C, oC) :: (D, LCg.lst ys) :: nx) := fun p hp => by
          rcases List.mem_cons.mp hp with rfl | hp
          · exact ⟨heI, Ne.symm (Nat.ne_of_lt hLI), hI₀⟩
          · rcases List.mem_cons.mp hp with rfl | hp
            · exact ⟨heC, hLC, hC₀⟩
            · have z := N₂ p hp
              refine ⟨hs₃.extBut _ _ ?_ z.1, z.2⟩
              rcases List.mem_cons.mp hp with rfl | hp
              · exact hDC
              · exact (off3 p hp).2.1
        refine wpAny_mono (turn i v ys nx I oI C oC D _ h₃ _ ⟨hPv.1, by obtain ⟨_, t, e⟩ := hPv; exact ⟨t, by rw [e, show (0 : Int) + (i : Int) * 1 = (i : Int) from by omega]⟩⟩ hJ hoC (by simp) F₃ N₃ off' ⟨Ne.symm hCI, Ne.symm hDI, Ne.symm hDC⟩) (fun y s₄ h₄ => ?_) fun e s₅ h₅ => compBad_out hA hfe rfl h₅ bad
        obtain ⟨h₄, tk₄, nx₄, rfl, F₄, N₄, off₄, hJ₄⟩ := h₄
        have zI := (N₄ (I, oI) List.mem_cons_self).1
        have zC := (N₄ (C, oC) (List.mem_cons_of_mem _ List.mem_cons_self)).1
        have zD := (N₄ (D, LCg.lst ys) (List.mem_cons_of_mem _ (List.mem_cons_of_mem _ List.mem_cons_self))).1
        have N₄' : News h₀ L h₄ nx₄ := fun p hp => N₄ p (List.mem_cons_of_mem _ (List.mem_cons_of_mem _ (List.mem_cons_of_mem _ hp)))
        have off4 := off₄.mem
        have hst₄ := hoI h₄ zI
        refine append_at (hsz := by show ys.toArray.size ≤ sizeLine; rw [List.size_toArray, hyl]; rw [PySem.sizeLine_eq]; omega) zD fun h₅ hs₅ hD₅ => ?_
        have hDfp : D ∉ [I] := fun hm => hDI (List.mem_singleton.mp hm)
        refine ⟨n + 1 - (i + 1), by omega, h₅, tk₄, i + 1, ys ++ [y], _, nx₄, rfl, hlt', rfl, by rw [List.length_append, List.length_singleton, hyl], W.frame (i + 1) _ _ hst₄ (fun b hb o e => hs₅.extBut b o (fun q => hDfp (q ▸ hb)) e), F₄.change hs₅ hLD hD₀,
          (hoC.ns zC).sameBut hs₅ (Ne.symm hDC), fun p hp => ?_, off₄, hJ₄⟩
        rcases List.mem_cons.mp hp with rfl | hp
        · exact ⟨hD₅.trans (congrArg some (LCg.lst_snoc ys y)), hLD, hD₀⟩
        · exact ⟨hs₅.extBut _ _ (off4 p hp).2.2 (N₄' p hp).1, (N₄' p hp).2⟩
      · obtain rfl : i = n := Nat.le_antisymm hi (Nat.not_lt.mp hlt')
        refine W.done _ _ _ hst' fun h₂ tk₂ hk₂ => ?_
        have Fd := LCg.fr_but F' hk₂ (Nat.ne_of_lt hLI) hI₀
        have Nd : News h₀ L h₂ ((D, LCg.lst ys) :: nx) := LCg.news_but N' hk₂ fun p hp => by
          rcases List.mem_cons.mp hp with rfl | hp
          · exact hDI
          · exact (off3 p hp).1
        refine ⟨m', hn'.at' fun o e => hk₂ _ o (by simpa using hCI) e, fun h'' hs'' => done D h'' tk₂ ys nx hJ (Fd.change hs'' hLC hC₀) (fun p hp => ?_) off'.one⟩
        refine ⟨hs''.extBut _ _ ?_ (Nd p hp).1, (Nd p hp).2⟩
        rcases List.mem_cons.mp hp with rfl | hp
        · exact hDC
        · exact (off3 p hp).2.1
    · rcases List.mem_cons.mp hp with rfl | hp
      · exact ⟨hacc, hLD, hD₀⟩
      · exact ⟨old _ _ (N1 p hp).1, (N1 p hp).2⟩
  exact codeAny_compStart_list (loop _ rfl) (W.self 0 _ _ _ (W.frame 0 _ _ hst0 fun b _ o e => old b o e) (loop _ rfl))

local macro_rules | `(tactic| walk_at "call builtin:len") => `(tactic| (k_here; (with_reducible show wpAny _ _ (call (Value.builtin "len") [Value.ref _]) _ _ _); k_dflt (refine' len_led ?N ?m ?z ?_; (case N => k_asm); (case m => k_mem); (case z => (simp only [List.length_append, List.length_cons, List.length_nil]; omega)); k_whole)))
local macro_rules | `(tactic| walk_at "exec Raise some none") => `(tactic| refine Raise_new rfl ?_)

set_option maxHeartbeats 4000000 in
theorem reader_c {w : World} {p : Program} {loose : List Str} {mean : ExcName → Option Value} {mg mb : Str → Option Value}
    {dp un : Nat} {gd : Option (List Code)} {cn : Str} {cs : Scope} {a : Addr} {ccd : Value} {cl : List (Str × Addr)} {outer : List Env} {A₀ : Around} {base h₀ : Heap} {L : Addr} {m : Str → Option Value} {s : Shared} {Q E : Value → Shared → Prop}
    {ha rd cH cS c' : Addr} {oH oS oc : Obj} {vc : Array Value} {doc pm ct : Value} {tc tS : Tok} {hs : List Value} {n : Nat} {stop : Int} {x : Str} {tx : Tok} {rest : List (Addr × Obj)}
    (B : Below A₀ base outer h₀) (F : Fr h₀ L s.heap m) (X : (Mine.hd.heap_39 w.params).In h₀)
    (C1 : CodeHd h₀ 91 87) (C2 : CodeHd h₀ 68 64) (C3 : CodeHd h₀ 61 57)
    (N : News h₀ L s.heap ((ha, listOf hs.toArray n) :: (rd, rObj [(Str.ofString "stop", cS), (Str.ofString "heard", cH)] doc pm c' ct) :: (c', oc) :: (cH, oH) :: (cS, oS) :: rest))
    (hoc : oc.data = .fields vc) (hvc : vc[1]? = some (.str (Str.ofString "_law_listener.<locals>._law_reader") tc)) (hoH : oH.data = .cell (some (.ref ha))) (hoS : oS.data = .cell (some (.int stop tS)))
    (T : Top p loose mean mg mb h₀) (hk : cs.kind = .function)
    (hrest : ∀ p ∈ rest, p.1 ≠ ha) (hn1 : @Ne Nat rd ha) (hn2 : @Ne Nat c' ha) (hn3 : @Ne Nat cH ha) (hn4 : @Ne Nat cS ha) (hlen : hs.length ≤ 100)
    (hdp : dp + 1 < recursionLimit) (hun : un + 8 < cLine)
    (hret : (hs.length : Int) + 1 ≠ stop → ∀ r t h' tk', Fr h₀ L h' m → ha < r → rd < r → c' < r → cH < r → cS < r → AllLt r rest →
      News h₀ L h' ((r, { cls := .type "tuple", data := .seq #[Value.int ((hs.length : Int) + 1) t, Value.str x tx] }) :: (ha, listOf (hs ++ [Value.str x tx]).toArray (n + 1)) :: (rd, rObj [(Str.ofString "stop", cS), (Str.ofString "heard", cH)] doc pm c' ct) :: (c', oc) :: (cH, oH) :: (cS, oS) :: rest) → Q (.ref r) { s with heap := h', toks := tk' })
    (hexc : (hs.length : Int) + 1 = stop → ∀ e G h' tk', Fr h₀ L G m → RaisedSN base G (envX cn cs L a ccd cl :: outer) e (.type "ValueError") ((ha, listOf (hs ++ [Value.str x tx]).toArray (n + 1)) :: (rd, rObj [(Str.ofString "stop", cS), (Str.ofString "heard", cH)] doc pm c' ct) :: (c', oc) :: (cH, oH) :: (cS, oS) :: rest) h' → G.UpToSlots h' → E (.ref e) { s with heap := h', toks := tk' }) :
    wpAny (model PySem.Challenge.rw_ej5023_01.row.prog w) (ktrTop dp un gd cn cs L a ccd cl outer) (call (.ref rd) [.str x tx]) Q E s := by
  w_top off; revert X; k_fill; intro X
  refine wpAny_call ?_
  (refine' code_nest ?k1 ?k2 ?k3 ?k4 ?k5 ?kA ?kF ?kK ?k6 ?k7 ?k8 ?k9 ?kB ?_ ?c2 ?c3 ?c4 ?c5; (case kA => exact rfl); (case kF => exact rfl); (case kK => exact hk); (case k1 => k_asm); (case k2 => k_asm); (case k3 => k_asm); (case k4 => k_asm); (case k5 => k_asm); (case k6 => k_mem); (case k7 => exact codeRec_news (by k_asm) (by k_mem) (by assumption) (by assumption)); (case k8 => ktr_room); (case k9 => exact BindsTo.of_eq rfl); (case c5 => decide); (case kB => exact locs rfl); (case c2 => exact rfl); (case c3 => exact rfl); (case c4 => exact rfl); k_whole; intro g' L' h' FG' F' N' B' X' T'; (try dsimp only); (try k_fold))
  k_steps
  · (rename _ = stop => h1)
    simp only [List.length_append, List.length_cons, List.length_nil] at h1
    refine leaveX_new B' (by assumption) (by assumption) (by assumption) rfl rfl fun h9 R9 U9 => hexc (by omega) _ _ _ _ FG' R9 U9
  · (rename _ ≠ stop => h1)
    (rename _ ∧ _ => l1)
    simp only [List.length_append, List.length_cons, List.length_nil] at h1
    obtain ⟨l1, l2, l3, l4, l5, l6⟩ := l1
    refine' hret (by omega) _ _ _ _ (by assumption) l1 l2 l3 l4 l5 l6 ?k9
    case k9 =>
    (rename News h₀ _ _ (_ :: _ :: _) => N9)
    have e9 : ((hs ++ [Value.str x tx]).length : Int) = (hs.length : Int) + 1 := by simp
    rw [e9] at N9
    exact N9

/-- one range's text: its two bounds' signs, its two ends -/
structure Span where
  b0 : Nat
  b1 : Nat
  lo : Str
  hi : Str
def Span.codes (x : Span) : List Nat := x.b0 :: (x.lo.cps.toList ++ 44 :: (x.hi.cps.toList ++ [x.b1]))
def Span.text (x : Span) : Str := ⟨x.codes.toArray⟩
def spanOk (x : Span) : Bool := (x.b0 == 91 || x.b0 == 40) && (x.b1 == 93 || x.b1 == 41) && endOk x.lo && endOk x.hi

abbrev Led := List (Addr × Obj)
/-- the frame of a caller, as the contracts ask for it -/
structure At (w : World) (p : Program) (loose : List Str) (mean : ExcName → Option Value) (mg mb : Str → Option Value) (cs : Scope) (outer : List Env) (A₀ : Around) (base h₀ : Heap) (L : Addr) (m : Str → Option Value) (h : Heap) (news : Led) : Prop where
  B : Below A₀ base outer h₀
  F : Fr h₀ L h m
  X : (Mine.hd.heap_39 w.params).In h₀
  T : Top p loose mean mg mb h₀
  hk : cs.kind = .function
  N : News h₀ L h news
  C1 : CodeHd h₀ 91 87
  C2 : CodeHd h₀ 68 64
  C3 : CodeHd h₀ 61 57

/-- the contract of a reader of items that have a text -/
def RdC {ι : Type} (text : ι → Str) (ok : ι → Bool) (bound : Nat) (w : World) (p : Program) (loose : List Str) (mean : ExcName → Option Value) (mg mb : Str → Option Value) (d u : Nat) (ad : Value) (ha : Addr) (Inv : Led → List ι → List Value → Prop) (Bad : Led → List ι → ι → Prop) (go : List ι → ι → Bool) : Prop :=
  ∀ (dp un : Nat) (gd : Option (List Code)) (cn : Str) (cs : Scope) (a : Addr) (ccd : Value) (cl : List (Str × Addr)) (outer : List Env) (A₀ : Around) (base h₀ : Heap) (L : Addr) (m : Str → Option Value) (s : Shared) (Q E : Value → Shared → Prop)
    (front R : Led) (xs : List ι) (vs : List Value) (x : ι) (t : Tok),
    At w p loose mean mg mb cs outer A₀ base h₀ L m s.heap (front ++ R) → Inv R xs vs → ok x = true → xs.length < bound → (∀ q ∈ front, q.1 ≠ ha) → dp + d < recursionLimit → un + u < cLine →
    (go xs x = true → ∀ v R' h' tk', Inv R' (xs ++ [x]) (vs ++ [v]) → Fr h₀ L h' m → News h₀ L h' (front ++ R') → (∀ r ∈ R', (∃ q ∈ R, q.1 = r.1) ∨ ∀ z ∈ front, z.1 < r.1) → Q v { s with heap := h', toks := tk' }) →
    (go xs x = false → ∀ e G R' h' tk', Bad R' xs x → Fr h₀ L G m → RaisedSN base G (envX cn cs L a ccd cl :: outer) e (.type "ValueError") (front ++ R') h' → G.UpToSlots h' → E (.ref e) { s with heap := h', toks := tk' }) →
    wpAny (model PySem.Challenge.rw_ej5023_01.row.prog w) (ktrTop dp un gd cn cs L a ccd cl outer) (call ad [.str (text x) t]) Q E s
abbrev AdC (w : World) (p : Program) (loose : List Str) (mean : ExcName → Option Value) (mg mb : Str → Option Value) (d u : Nat) (ad : Value) (ha : Addr) (Inv : Led → List Span → List Value → Prop) (Bad : Led → List Span → Span → Prop) (go : List Span → Span → Bool) : Prop :=
  RdC Span.text spanOk 8 w p loose mean mg mb d u ad ha Inv Bad go

/-- a listener's reader stands in the ledger -/
def RdIn (news : Led) (rd ha : Addr) (stop : Int) : Prop :=
  ∃ (cH cS c' : Addr) (oH oS oc : Obj) (vc : Array Value) (doc pm ct : Value) (tc tS : Tok), (rd, rObj [(Str.ofString "stop", cS), (Str.ofString "heard", cH)] doc pm c' ct) ∈ news ∧ (c', oc) ∈ news ∧ (cH, oH) ∈ news ∧ (cS, oS) ∈ news ∧
    oc.data = .fields vc ∧ vc[1]? = some (.str (Str.ofString "_law_listener.<locals>._law_reader") tc) ∧ oH.data = .cell (some (.ref ha)) ∧ oS.data = .cell (some (.int stop tS))
theorem RdIn.mono {a b : Led} {rd ha : Addr} {stop : Int} (h : RdIn a rd ha stop) (hs : ∀ p ∈ a, p ∈ b) : RdIn b rd ha stop := by
  obtain ⟨cH, cS, c', oH, oS, oc, vc, doc, pm, ct, tc, tS, h1, h2, h3, h4, r⟩ := h
  exact ⟨cH, cS, c', oH, oS, oc, vc, doc, pm, ct, tc, tS, hs _ h1, hs _ h2, hs _ h3, hs _ h4, r⟩
theorem in_rest {a b : Addr} {o o₀ : Obj} {own rest : Led} (h : (b, o) ∈ own ++ (a, o₀) :: rest) (hd : o.data ≠ o₀.data) : (b, o) ∈ own ++ rest := by
  simp only [List.mem_append, List.mem_cons] at h ⊢
  rcases h with h | h | h
  · exact .inl h
  · exact absurd (by rw [(Prod.mk.inj h).2]) hd
  · exact .inr h

theorem reader_u {w : World} {p : Program} {loose : List Str} {mean : ExcName → Option Value} {mg mb : Str → Option Value}
    {dp un : Nat} {gd : Option (List Code)} {cn : Str} {cs : Scope} {a : Addr} {ccd : Value} {cl : List (Str × Addr)} {outer : List Env} {A₀ : Around} {base h₀ : Heap} {L : Addr} {m : Str → Option Value} {s : Shared} {Q E : Value → Shared → Prop}
    {ha rd : Addr} {hs : List Value} {n : Nat} {stop : Int} {x : Str} {tx : Tok} {own rest : Led}
    (AT : At w p loose mean mg mb cs outer A₀ base h₀ L m s.heap (own ++ (ha, listOf hs.toArray n) :: rest)) (hrd : RdIn (own ++ rest) rd ha stop) (hne : ∀ p ∈ own ++ rest, p.1 ≠ ha) (hlen : hs.length ≤ 100)
    (hdp : dp + 1 < recursionLimit) (hun : un + 8 < cLine)
    (hret : (hs.length : Int) + 1 ≠ stop → ∀ r t h' tk', Fr h₀ L h' m → @LT.lt Nat _ ha r → (∀ p ∈ own ++ rest, p.1 < r) →
      News h₀ L h' ((r, { cls := .type "tuple", data := .seq #[Value.int ((hs.length : Int) + 1) t, Value.str x tx] }) :: (own ++ (ha, listOf (hs ++ [Value.str x tx]).toArray (n + 1)) :: rest)) → Q (.ref r) { s with heap := h', toks := tk' })
    (hexc : (hs.length : Int) + 1 = stop → ∀ e G h' tk', Fr h₀ L G m → RaisedSN base G (envX cn cs L a ccd cl :: outer) e (.type "ValueError") (own ++ (ha, listOf (hs ++ [Value.str x tx]).toArray (n + 1)) :: rest) h' → G.UpToSlots h' → E (.ref e) { s with heap := h', toks := tk' }) :
    wpAny (model PySem.Challenge.rw_ej5023_01.row.prog w) (ktrTop dp un gd cn cs L a ccd cl outer) (call (.ref rd) [.str x tx]) Q E s := by
  obtain ⟨B, F, X, T, hk, N, C1, C2, C3⟩ := AT
  obtain ⟨cH, cS, c', oH, oS, oc, vc, doc, pm, ct, tc, tS, h1, h2, h3, h4, hoc, hvc, hoH, hoS⟩ := hrd
  refine reader_c (ha := ha) (rest := own ++ rest) (cH := cH) (cS := cS) (c' := c') (oH := oH) (oS := oS) (oc := oc) (vc := vc) (doc := doc) (pm := pm) (ct := ct) (tc := tc) (tS := tS) (hs := hs) (n := n) (stop := stop) B F X C1 C2 C3 (news_sub N fun q hq => ?_) hoc hvc hoH hoS T hk hne (hne _ h1) (hne _ h2) (hne _ h3) (hne _ h4) hlen hdp hun
    (fun e r t h' tk' F' k1 k2 k3 k4 k5 k6 N' => hret e r t h' tk' F' k1 (fun q hq => ?_) (news_sub N' fun q hq => ?_)) (fun e x9 G h' tk' F' R' U' => hexc e x9 G h' tk' F' (raised_fewer R' fun q hq => ?_) U')
  · have up : ∀ z ∈ own ++ rest, z ∈ own ++ (ha, listOf hs.toArray n) :: rest := fun z hz => by
      simp only [List.mem_append, List.mem_cons] at hz ⊢
      exact hz.imp id .inr
    simp only [List.mem_cons] at hq
    rcases hq with rfl | rfl | rfl | rfl | rfl | hq
    · exact List.mem_append_right _ (.head _)
    · exact up _ h1
    · exact up _ h2
    · exact up _ h3
    · exact up _ h4
    · exact up _ hq
  · have : ∀ l : Led, AllLt r l → ∀ z ∈ l, z.1 < r := fun l => by
      induction l with
      | nil => intro _ z hz; cases hz
      | cons y l ih =>
        intro hA z hz
        rcases List.mem_cons.mp hz with rfl | hz
        · exact hA.1
        · exact ih hA.2 z hz
    exact this _ k6 q hq
  · simp only [List.mem_cons, List.mem_append] at hq ⊢
    rcases hq with hq | hq | hq | hq
    · exact .inl hq
    · exact .inr (.inr (.inr (.inr (.inr (.inr (.inl hq))))))
    · exact .inr (.inl hq)
    · exact .inr (.inr (.inr (.inr (.inr (.inr (.inr hq))))))
  · simp only [List.mem_cons, List.mem_append] at hq ⊢
    rcases hq with hq | hq | hq
    · exact .inr (.inr (.inr (.inr (.inr (.inl hq)))))
    · exact .inl hq
    · exact .inr (.inr (.inr (.inr (.inr (.inr hq)))))

/-- what a listener has heard and handed back -/
def toldD {ι : Type} (text : ι → Str) (xs : List ι) : List Dat := xs.zipIdx.map fun q => Dat.tuple [.int ((q.2 : Int) + 1), .str (text q.1)]
def LInv {ι : Type} (text : ι → Str) (ha : Addr) (R₀ : Led) (R : Led) (xs : List ι) (vs : List Value) : Prop :=
  ∃ (tl : Led) (hs : List Value) (n : Nat), R = (ha, listOf hs.toArray n) :: (tl ++ R₀) ∧ StrsAre hs (xs.map text) ∧ DatAll tl vs (toldD text xs) ∧ ∀ p ∈ tl, @LT.lt Nat _ ha p.1
def LBad {ι : Type} (text : ι → Str) (ha : Addr) (R₀ : Led) (R : Led) (xs : List ι) (x : ι) : Prop :=
  ∃ (tl : Led) (hs : List Value) (n : Nat), R = (ha, listOf hs.toArray n) :: (tl ++ R₀) ∧ StrsAre hs ((xs ++ [x]).map text) ∧ ∀ p ∈ tl, @LT.lt Nat _ ha p.1
theorem toldD_snoc {ι : Type} (text : ι → Str) (xs : List ι) (x : ι) : toldD text (xs ++ [x]) = toldD text xs ++ [Dat.tuple [.int ((xs.length : Int) + 1), .str (text x)]] := by
  unfold toldD
  rw [List.zipIdx_append, List.map_append]
  simp
theorem listener_rd {ι : Type} (text : ι → Str) (ok : ι → Bool) (bound : Nat) (hb : bound ≤ 50) {w : World} {p : Program} {loose : List Str} {mean : ExcName → Option Value} {mg mb : Str → Option Value} {ha rd : Addr} {stop : Int} {R₀ : Led}
    (hrd : RdIn R₀ rd ha stop) (hne : ∀ p ∈ R₀, p.1 ≠ ha) :
    RdC text ok bound w p loose mean mg mb 1 8 (.ref rd) ha (LInv text ha R₀) (LBad text ha R₀) (fun xs _ => decide ((xs.length : Int) + 1 ≠ stop)) := by
  intro dp un gd cn cs a ccd cl outer A₀ base h₀ L m s Q E front R xs vs x t AT hI hok hlen hoff hdp hun hret hexc
  obtain ⟨tl, hs, n, rfl, hh, hD, htl⟩ := hI
  have hsl : hs.length = xs.length := by rw [hh.length, List.length_map]
  refine reader_u (own := front) (ha := ha) (hs := hs) (n := n) (rest := tl ++ R₀) (stop := stop) AT (hrd.mono fun q hq => List.mem_append_right _ (List.mem_append_right _ hq)) (fun q hq => ?_) (by omega) hdp hun ?_ ?_
  · rcases List.mem_append.mp hq with hq | hq
    · exact hoff q hq
    · rcases List.mem_append.mp hq with hq | hq
      · exact Nat.ne_of_gt (htl q hq)
      · exact hne q hq
  · intro e r t' h' tk' F' hr1 hr2 N'
    rw [hsl] at e N'
    refine hret (by simpa using e) (.ref r) ((ha, listOf (hs ++ [Value.str (text x) t]).toArray (n + 1)) :: (((r, { cls := .type "tuple", data := .seq #[Value.int ((xs.length : Int) + 1) t', Value.str (text x) t] }) :: tl) ++ R₀)) h' tk' ⟨_, _, _, rfl, ?_, ?_, ?_⟩ F' (news_sub N' ?_) ?_
    · rw [List.map_append]; exact hh.append' (.cons _ _ .nil)
    · rw [toldD_snoc]
      exact (hD.mono fun q hq => List.mem_cons_of_mem _ hq).append (.cons (.tuple (vs := [Value.int ((xs.length : Int) + 1) t', Value.str (text x) t]) List.mem_cons_self (.cons (.int _ _) (.cons (.str _ _) .nil))) .nil)
    · intro q hq
      rcases List.mem_cons.mp hq with rfl | hq
      · exact hr1
      · exact htl q hq
    · intro q hq
      simp only [List.mem_append, List.mem_cons, List.cons_append] at hq ⊢
      rcases hq with hq | hq | hq | hq | hq
      · exact .inr (.inl hq)
      · exact .inr (.inr (.inl hq))
      · exact .inl hq
      · exact .inr (.inr (.inr (.inl hq)))
      · exact .inr (.inr (.inr (.inr hq)))
    · intro q hq
      simp only [List.mem_append, List.mem_cons, List.cons_append] at hq
      rcases hq with rfl | rfl | hq | hq
      · exact .inl ⟨_, List.mem_cons_self, rfl⟩
      · exact .inr fun z hz => hr2 z (List.mem_append_left _ hz)
      · exact .inl ⟨q, List.mem_cons_of_mem _ (List.mem_append_left _ hq), rfl⟩
      · exact .inl ⟨q, List.mem_cons_of_mem _ (List.mem_append_right _ hq), rfl⟩
  · intro e x9 G h' tk' F' R' U'
    rw [hsl] at e
    refine hexc (by simpa using e) x9 G ((ha, listOf (hs ++ [Value.str (text x) t]).toArray (n + 1)) :: (tl ++ R₀)) h' tk' ⟨tl, _, _, rfl, ?_, htl⟩ F' R' U'
    rw [List.map_append]; exact hh.append' (.cons _ _ .nil)

def isClose (c : Nat) : Bool := c == 93 || c == 41
def isOpen (c : Nat) : Bool := c == 91 || c == 40
theorem cps_close : (Str.ofString "])").cps.toList = [93, 41] := by decide +kernel
theorem cps_open : (Str.ofString "[(").cps.toList = [91, 40] := by decide +kernel
theorem found_close (c : Nat) : (Builtin.Str.occurrences (Str.ofString "])") ⟨#[c]⟩ 0 (Str.ofString "])").length 1).isEmpty = !isClose c := by
  have h := StrLaws.found_one (Str.ofString "])") c
  rw [cps_close] at h
  have e : decide (c ∈ [93, 41]) = isClose c := by
    unfold isClose
    by_cases h1 : c = 93 <;> by_cases h2 : c = 41 <;> simp [h1, h2]
  rw [e] at h
  rw [← h, Bool.not_not]
theorem found_open (c : Nat) : (Builtin.Str.occurrences (Str.ofString "[(") ⟨#[c]⟩ 0 (Str.ofString "[(").length 1).isEmpty = !isOpen c := by
  have h := StrLaws.found_one (Str.ofString "[(") c
  rw [cps_open] at h
  have e : decide (c ∈ [91, 40]) = isOpen c := by
    unfold isOpen
    by_cases h1 : c = 91 <;> by_cases h2 : c = 40 <;> simp [h1, h2]
  rw [e] at h
  rw [← h, Bool.not_not]
theorem str_ext {x y : Str} (h : x.cps.toList = y.cps.toList) : x = y := Str.ext' (Array.toList_inj.mp h)
theorem cat_list (x y : Str) : (x ++ y).cps.toList = x.cps.toList ++ y.cps.toList := by rw [Str.cps_append, Array.toList_append]
theorem join_signs : ∀ l : List Nat, (Str.join (Str.ofString "") (l.map fun c => (⟨#[c]⟩ : Str))).cps.toList = l
  | [] => rfl
  | [c] => rfl
  | c :: d :: r => by
    have ih := join_signs (d :: r)
    simp only [List.map_cons] at ih
    simp only [List.map_cons, Str.join]
    rw [cat_list, cat_list, ih]
    have e : (Str.ofString "").cps.toList = [] := by decide +kernel
    rw [e]; rfl
theorem join_signsT (l : List Nat) : PySem.Txt.join (Str.ofString "") (l.map fun c => (⟨#[c]⟩ : Str)) = ⟨l.toArray⟩ := by
  show Builtin.Str.glued (Str.ofString "") (l.map fun c => (⟨#[c]⟩ : Str)) = _
  rw [StrLaws.glued_eq_join]
  exact str_ext (join_signs l)
theorem join_c {prog : Program} {w : World} {A : Around} {E : Value → Shared → Prop} {s : Shared} {h₀ : Heap} {L D : Addr} {news : List (Addr × Obj)} {ys : List Value} {n : Nat} {t : Tok} {Q : Value → Shared → Prop} {l : List Nat}
    (N : News h₀ L s.heap news) (hm : (D, listOf ys.toArray n) ∈ news) (hc : CarriedAll ys (l.map fun a => PyData.str ⟨#[a]⟩)) (hn : l.length ≤ 1048576)
    (h : ∀ t' k, Q (.str ⟨l.toArray⟩ t') { s with toks := k }) : wpAny (model prog w) A (call (.builtin "str.join") [.str (Str.ofString "") t, .ref D]) Q E s := by
  refine KT.join_1 (l := l) (g := fun a => (⟨#[a]⟩ : Str)) ⟨_, (N _ hm).1, rfl, n, rfl⟩ hc (fun _ _ => rfl) hn fun t' k _ => ?_
  rw [join_signsT]
  exact h t' k
theorem carried_snoc {ys : List Value} {l : List Nat} {c : Nat} {t : Tok} (hc : CarriedAll ys (l.map fun a => PyData.str ⟨#[a]⟩)) : CarriedAll (ys ++ [.str ⟨#[c]⟩ t]) ((l ++ [c]).map fun a => PyData.str ⟨#[a]⟩) := by
  rw [List.map_append]
  exact hc.appendLM (.cons (.str _ _) .nil)

def scanStep : Bool × List Nat × List (List Nat) → Nat → Bool × List Nat × List (List Nat)
  | (true, v, d), c => if isClose c then (false, [], d ++ [v ++ [c]]) else (true, v ++ [c], d)
  | (false, v, d), c => if isOpen c then (true, v ++ [c], d) else (false, v, d)
def scan (l : List Nat) : Bool × List Nat × List (List Nat) := l.foldl scanStep (false, [], [])
theorem scan_snoc (l : List Nat) (c : Nat) : scan (l ++ [c]) = scanStep (scan l) c := by unfold scan; rw [List.foldl_append]; rfl
theorem step_t (v : List Nat) (d : List (List Nat)) (c : Nat) : scanStep (true, v, d) c = if isClose c then (false, [], d ++ [v ++ [c]]) else (true, v ++ [c], d) := rfl
theorem step_f (v : List Nat) (d : List (List Nat)) (c : Nat) : scanStep (false, v, d) c = if isOpen c then (true, v ++ [c], d) else (false, v, d) := rfl
theorem step_grows (st : Bool × List Nat × List (List Nat)) (c : Nat) : ∃ r, (scanStep st c).2.2 = st.2.2 ++ r := by
  obtain ⟨b, v, d⟩ := st
  cases b
  · rw [step_f]; split
    · exact ⟨[], by simp⟩
    · exact ⟨[], by simp⟩
  · rw [step_t]; split
    · exact ⟨[v ++ [c]], rfl⟩
    · exact ⟨[], by simp⟩
theorem fold_grows (l : List Nat) : ∀ st : Bool × List Nat × List (List Nat), ∃ r, (l.foldl scanStep st).2.2 = st.2.2 ++ r := by
  induction l with
  | nil => intro st; exact ⟨[], by simp⟩
  | cons c l ih =>
    intro st
    obtain ⟨r, h⟩ := ih (scanStep st c)
    obtain ⟨r', h'⟩ := step_grows st c
    exact ⟨r' ++ r, by rw [List.foldl_cons, h, h', List.append_assoc]⟩
theorem scan_prefix (a b : List Nat) : ∃ r, (scan (a ++ b)).2.2 = (scan a).2.2 ++ r := by
  unfold scan; rw [List.foldl_append]; exact fold_grows b _
theorem step_len (st : Bool × List Nat × List (List Nat)) (c : Nat) : (scanStep st c).2.1.length ≤ st.2.1.length + 1 := by
  obtain ⟨b, v, d⟩ := st
  cases b
  · rw [step_f]; split <;> simp
  · rw [step_t]; split <;> simp
theorem scan_len (l : List Nat) : (scan l).2.1.length ≤ l.length := by
  have : ∀ (l : List Nat) (st : Bool × List Nat × List (List Nat)), (l.foldl scanStep st).2.1.length ≤ st.2.1.length + l.length := by
    intro l
    induction l with
    | nil => intro st; simp
    | cons c l ih =>
      intro st
      have h1 := ih (scanStep st c)
      have h2 := step_len st c
      simp only [List.foldl_cons, List.length_cons]
      omega
  have h := this l (false, [], [])
  simpa [scan] using h
theorem pre_map {α β : Type} (f : α → β) : ∀ (d r : List β) (xs : List α), xs.map f = d ++ r → d = (xs.take d.length).map f ∧ d.length ≤ xs.length := by
  intro d r xs h
  have hl := congrArg List.length h
  simp only [List.length_map, List.length_append] at hl
  refine ⟨?_, by omega⟩
  rw [List.map_take, h, List.take_left]
theorem scan_at {spans : List Span} {data pre post : List Nat} (hs : scan data = (false, [], spans.map Span.codes)) (e : data = pre ++ post) :
    (scan pre).2.2 = (spans.take (scan pre).2.2.length).map Span.codes ∧ (scan pre).2.2.length ≤ spans.length := by
  obtain ⟨r, h⟩ := scan_prefix pre post
  rw [← e, hs] at h
  exact pre_map Span.codes _ _ _ h
/-- where a range closes, its text is the next span's -/
theorem scan_close {spans : List Span} {data pre post : List Nat} {v : List Nat} {d : List (List Nat)} {c : Nat} (hs : scan data = (false, [], spans.map Span.codes)) (e : data = pre ++ c :: post)
    (hp : scan pre = (true, v, d)) (hc : isClose c = true) : ∃ h : d.length < spans.length, v ++ [c] = (spans[d.length]'h).codes := by
  have e2 : data = (pre ++ [c]) ++ post := by rw [e]; simp
  have h1 := scan_at hs e2
  rw [scan_snoc, hp] at h1
  rw [step_t, if_pos hc] at h1
  obtain ⟨h2, h3⟩ := h1
  simp only [List.length_append, List.length_cons, List.length_nil] at h3 h2
  refine ⟨by omega, ?_⟩
  rw [List.take_add_one, List.map_append] at h2
  have h4 : d = (spans.take d.length).map Span.codes := by
    have := scan_at hs e
    rw [hp] at this
    exact this.1
  rw [← h4] at h2
  have h5 := List.append_cancel_left h2
  have h6 : spans[d.length]? = some (spans[d.length]'(by omega)) := List.getElem?_eq_getElem _
  rw [h6] at h5
  simpa using h5

def Span.mid (x : Span) : List Nat := x.lo.cps.toList ++ 44 :: x.hi.cps.toList
theorem codes_eq (x : Span) : x.codes = x.b0 :: (x.mid ++ [x.b1]) := by simp [Span.codes, Span.mid]
theorem text_list (x : Span) : x.text.cps.toList = x.codes := rfl
theorem text_len (x : Span) : x.text.length = x.mid.length + 2 := by
  show x.text.cps.size = _
  rw [← Array.length_toList, text_list, codes_eq]
  simp
theorem end_len {e : Str} (h : endOk e = true) : e.cps.toList.length ≤ 16 := by
  unfold endOk at h
  simp only [Bool.and_eq_true, decide_eq_true_eq] at h
  have := h.1.1
  rw [Array.length_toList]; exact this
theorem end_str {e : Str} (h : endOk e = true) : PyData.strOk e = true := by
  unfold endOk at h
  simp only [Bool.and_eq_true] at h
  exact h.1.2
theorem end_signs {e : Str} (h : endOk e = true) : ∀ c ∈ e.cps.toList, c ≠ 91 ∧ c ≠ 93 ∧ c ≠ 40 ∧ c ≠ 41 ∧ c ≠ 44 := by
  unfold endOk at h
  simp only [Bool.and_eq_true, List.all_eq_true] at h
  intro c hc
  have := h.2 c hc
  unfold endSign at this
  simp only [Bool.and_eq_true, bne_iff_ne] at this
  omega
theorem ok_parts {x : Span} (h : spanOk x = true) : (x.b0 = 91 ∨ x.b0 = 40) ∧ (x.b1 = 93 ∨ x.b1 = 41) ∧ endOk x.lo = true ∧ endOk x.hi = true := by
  unfold spanOk at h
  simp only [Bool.and_eq_true, Bool.or_eq_true, beq_iff_eq] at h
  exact ⟨h.1.1.1, h.1.1.2, h.1.2, h.2⟩
theorem mid_len {x : Span} (h : spanOk x = true) : x.mid.length ≤ 33 := by
  obtain ⟨_, _, h1, h2⟩ := ok_parts h
  have := end_len h1
  have := end_len h2
  simp only [Span.mid, List.length_append, List.length_cons]
  omega
theorem text_le {x : Span} (h : spanOk x = true) : x.text.length ≤ 35 := by
  rw [text_len]; have := mid_len h; omega
theorem text_not_empty (x : Span) (h : spanOk x = true) : (x.text == Str.ofString "empty") = false := by
  obtain ⟨h0, _⟩ := ok_parts h
  have e : (Str.ofString "empty").cps.toList = [101, 109, 112, 116, 121] := by decide +kernel
  cases q : x.text == Str.ofString "empty" with
  | false => rfl
  | true =>
    have q' := congrArg (fun z : Str => z.cps.toList) (eq_of_beq q)
    simp only [text_list, e, codes_eq] at q'
    injection q' with q1 _
    omega
theorem slice_mid (x : Span) : PySem.Txt.slice x.text (some 1) (some (-1)) = ⟨x.mid.toArray⟩ := by
  have hl := text_len x
  have hn : Builtin.Str.strSliceIndices (some 1) (some (-1)) 1 x.text.length = Builtin.Str.strSliceIndices (some ((1 : Nat) : Int)) (some ((x.mid.length + 1 : Nat) : Int)) 1 x.text.length := by
    rw [StrLaws.sliceIdx_neg_hi (some 1) x.text.length (by decide) (by omega)]
    congr 2
    omega
  have hp := StrLaws.strSliceIndices_plain (a := 1) (b := x.mid.length + 1) (len := x.text.length) (by omega) (by omega)
  unfold PySem.Txt.slice
  rw [hn]
  have hne : ((1 : Int) == 1 && (Builtin.Str.strSliceIndices (some ((1 : Nat) : Int)) (some ((x.mid.length + 1 : Nat) : Int)) 1 x.text.length).length == x.text.length) = false := by
    rw [hp, hl]
    simp
  rw [if_neg (by rw [hne]; decide)]
  have hs := StrLaws.sliced_plain x.text (a := 1) (b := x.mid.length + 1) (by omega) (by omega)
  rw [hs, text_list, codes_eq]
  simp
theorem cps_comma : (Str.ofString ",").cps.toList = [44] := by decide +kernel
theorem comma_is : Str.ofString "," = ⟨#[44]⟩ := by decide +kernel
/-- two joins of comma-free parts -/
theorem join_uniq : ∀ (ps qs : List Str), ps ≠ [] → qs ≠ [] → (∀ p ∈ ps, 44 ∉ p.cps.toList) → (∀ p ∈ qs, 44 ∉ p.cps.toList) → (Str.join (Str.ofString ",") ps).cps.toList = (Str.join (Str.ofString ",") qs).cps.toList → ps = qs
  | [], _, h, _, _, _, _ => absurd rfl h
  | _, [], _, h, _, _, _ => absurd rfl h
  | [p], [q], _, _, _, _, e => by
    simp only [Str.join] at e
    rw [str_ext e]
  | [p], q :: q' :: r, _, _, hp, _, e => by
    exfalso
    have : 44 ∈ (Str.join (Str.ofString ",") (q :: q' :: r)).cps.toList := by
      simp only [Str.join, cat_list, cps_comma, List.mem_append]
      exact .inl (.inr (List.mem_singleton.mpr rfl))
    rw [← e] at this
    exact hp p (List.mem_singleton.mpr rfl) this
  | p :: p' :: r, [q], _, _, _, hq, e => by
    exfalso
    have : 44 ∈ (Str.join (Str.ofString ",") (p :: p' :: r)).cps.toList := by
      simp only [Str.join, cat_list, cps_comma, List.mem_append]
      exact .inl (.inr (List.mem_singleton.mpr rfl))
    rw [e] at this
    exact hq q (List.mem_singleton.mpr rfl) this
  | p :: p' :: r, q :: q' :: t, _, _, hp, hq, e => by
    simp only [Str.join, cat_list, cps_comma, List.append_assoc] at e
    have h1 : p.cps.toList = q.cps.toList ∧ (Str.join (Str.ofString ",") (p' :: r)).cps.toList = (Str.join (Str.ofString ",") (q' :: t)).cps.toList := by
      have hp' := hp p (List.mem_cons_self)
      have hq' := hq q (List.mem_cons_self)
      revert e hp' hq'
      generalize p.cps.toList = a
      generalize q.cps.toList = b
      intro e hp' hq'
      induction a generalizing b with
      | nil =>
        cases b with
        | nil => simpa using e
        | cons y b => simp only [List.nil_append, List.cons_append] at e; injection e with e1 _; exact absurd (e1 ▸ List.mem_cons_self) hq'
      | cons x a ih =>
        cases b with
        | nil => simp only [List.nil_append, List.cons_append] at e; injection e with e1 _; exact absurd (e1 ▸ List.mem_cons_self) hp'
        | cons y b =>
          simp only [List.cons_append] at e
          injection e with e1 e2
          have := ih b e2 (fun h => hp' (List.mem_cons_of_mem _ h)) (fun h => hq' (List.mem_cons_of_mem _ h))
          exact ⟨by rw [e1, this.1], this.2⟩
    rw [str_ext h1.1, join_uniq (p' :: r) (q' :: t) (by simp) (by simp) (fun z hz => hp z (List.mem_cons_of_mem _ hz)) (fun z hz => hq z (List.mem_cons_of_mem _ hz)) h1.2]
theorem split_ne (x y : Str) (hy : y.length ≠ 0) : Txt.split x y ≠ [] := by
  intro h
  have := StrLaws.join_split x y
  rw [h] at this
  unfold Txt.split at h
  split at h
  · cases h
  · split at h
    · cases h
    · rw [← List.length_eq_zero_iff, length_partsBetween] at h
      omega
theorem split_mid {x : Span} (hx : spanOk x = true) : Txt.split ⟨x.mid.toArray⟩ (Str.ofString ",") = [x.lo, x.hi] := by
  obtain ⟨_, _, h1, h2⟩ := ok_parts hx
  refine join_uniq _ _ (split_ne _ _ (by decide +kernel)) (by simp) ?_ ?_ ?_
  · rw [comma_is]; exact StrLaws.split_free _ 44
  · intro p hp hm
    rcases List.mem_cons.mp hp with rfl | hp
    · exact (end_signs h1 44 hm).2.2.2.2 rfl
    · rw [List.mem_singleton.mp hp] at hm
      exact (end_signs h2 44 hm).2.2.2.2 rfl
  · rw [StrLaws.join_split]
    simp only [Str.join, cat_list, cps_comma, Span.mid]
    simp
theorem two_of {l : List (Str × Tok)} {a b : Str} (h : l.map (·.1) = [a, b]) : ∃ t u, l = [(a, t), (b, u)] := by
  match l, h with
  | [(x, t), (y, u)], h => simp only [List.map_cons, List.map_nil, List.cons.injEq, and_true] at h; exact ⟨t, u, by rw [h.1, h.2]⟩

local macro_rules | `(tactic| walk_at "call builtin:str.join") => `(tactic| (k_here; (with_reducible show wpAny _ _ (call (Value.builtin "str.join") [Value.str _ _, Value.ref _]) _ _ _); (rename News _ _ _ ((_, _) :: _) => nN'); (try simp only [List.push_toArray] at nN'); k_dflt (refine' join_c ?N ?m ?c ?n ?_; (case N => k_asm); (case m => k_mem); (case c => exact carried_snoc (by assumption)); (case n => (simp only [List.length_append, List.length_cons, List.length_nil]; omega))); intro t' k'))
local macro_rules | `(tactic| walk_at "call builtin:list.clear") => `(tactic| (k_here; (with_reducible show wpAny _ _ (call (Value.builtin _) [Value.ref _]) _ _ _); k_dflt (refine' kl_clear ?F ?N ?U ?ne ?z ?_; (case F => k_asm); (case N => k_asm); (case U => k_upd); (case ne => simp); (case z => (simp only [List.toList_toArray, List.length_append, List.length_cons, List.length_nil]; rw [PySem.sizeLine_eq]; omega))); intro h' F' N'))

def forBody : Stmt → List Stmt
  | .For _ _ b _ _ => b
  | _ => []
def nthS (l : List Stmt) (i : Nat) : Stmt := (l[i]?).getD (.Pass ⟨0, 0, 0, 0⟩)
def fLoop : List Stmt := forBody (nthS (fnBody fDef) 3)
set_option maxHeartbeats 4000000 in
theorem f_turn {w : World} {p : Program} {loose : List Str} {mean : ExcName → Option Value} {mg mb : Str → Option Value}
    {dp un : Nat} {gd : Option (List Code)} {f : Addr} {ccd : Value} {cA : Addr} {outer : List Env} {A₀ : Around} {base h₀ : Heap} {L : Addr} {m : Str → Option Value} {s : Shared} {Q : Flow → Shared → Prop} {E : Value → Shared → Prop}
    {oA : Obj} {q vl res : Addr} {qc : Value} {qd : Option Addr} {fd : FuncData} {qs : Array (Option Value)} {vals vs : List Value} {nv nr : Nat} {inr : Bool} {cs : List Nat} {c : Nat} {tc : Tok} {Z : Led} {Good : Value → Led → Prop}
    (AT : At w p loose mean mg mb (fnScope fDef) outer A₀ base h₀ L m s.heap ((vl, listOf vals.toArray nv) :: (res, listOf vs.toArray nr) :: Z))
    (hA : (cA, oA) ∈ Z) (hoA : oA.data = .cell (some (.ref q))) (hq : (q, (⟨qc, qd, .func fd, qs⟩ : Obj)) ∈ Z)
    (hm1 : m (Str.ofString "in_range") = some (.bool inr)) (hm2 : m (Str.ofString "result") = some (.ref res)) (hm3 : m (Str.ofString "val") = some (.ref vl)) (hm4 : m (Str.ofString "c") = some (.str ⟨#[c]⟩ tc))
    (hvals : CarriedAll vals (cs.map fun c => .str ⟨#[c]⟩)) (hcs : cs.length ≤ 1000) (hvs : vs.length ≤ 1000)
    (hZ1 : ∀ p ∈ Z, p.1 ≠ vl) (hZ2 : ∀ p ∈ Z, p.1 ≠ res) (hne : @Ne Nat res vl) (hdp : dp + 10 < recursionLimit) (hun : un + 100 < cLine)
    (K1 : inr = true → isClose c = false → ∀ m' h' tk', m' (Str.ofString "in_range") = some (.bool true) → m' (Str.ofString "result") = some (.ref res) → m' (Str.ofString "val") = some (.ref vl) → Fr h₀ L h' m' →
      News h₀ L h' ((vl, listOf (vals ++ [Value.str ⟨#[c]⟩ tc]).toArray (nv + 1)) :: (res, listOf vs.toArray nr) :: Z) → Q .next { s with heap := h', toks := tk' })
    (K2 : inr = true → isClose c = true → ∀ m' h' tk' t' n', m' (Str.ofString "result") = some (.ref res) → m' (Str.ofString "val") = some (.ref vl) → Fr h₀ L h' m' →
      News h₀ L h' ((vl, listOf #[] n') :: (res, listOf vs.toArray nr) :: Z) →
      wpAny (model PySem.Challenge.rw_ej5023_01.row.prog w) (ktrTop dp un gd (Str.ofString "_multirange_in.<locals>.f") (fnScope fDef) L f ccd [(Str.ofString "adapter", cA)] outer) (call (.ref q) [.str ⟨(cs ++ [c]).toArray⟩ t'])
        (fun v s₂ => ∃ h₂ tk₂ Z₂, s₂ = { s with heap := h₂, toks := tk₂ } ∧ Fr h₀ L h₂ m' ∧ News h₀ L h₂ ((vl, listOf #[] n') :: (res, listOf vs.toArray nr) :: Z₂) ∧ (∀ p ∈ Z₂, p.1 ≠ res) ∧ Good v Z₂) E { s with heap := h', toks := tk' })
    (K3 : inr = true → isClose c = true → ∀ v Z₂ m' h' tk' n' n'', Good v Z₂ → m' (Str.ofString "in_range") = some (.bool false) → m' (Str.ofString "result") = some (.ref res) → m' (Str.ofString "val") = some (.ref vl) → Fr h₀ L h' m' →
      News h₀ L h' ((vl, listOf #[] n') :: (res, listOf (vs ++ [v]).toArray n'') :: Z₂) → Q .next { s with heap := h', toks := tk' })
    (K4 : inr = false → isOpen c = false → ∀ m' h' tk', m' (Str.ofString "in_range") = some (.bool false) → m' (Str.ofString "result") = some (.ref res) → m' (Str.ofString "val") = some (.ref vl) → Fr h₀ L h' m' →
      News h₀ L h' ((vl, listOf vals.toArray nv) :: (res, listOf vs.toArray nr) :: Z) → Q .next { s with heap := h', toks := tk' })
    (K5 : inr = false → isOpen c = true → ∀ m' h' tk', m' (Str.ofString "in_range") = some (.bool true) → m' (Str.ofString "result") = some (.ref res) → m' (Str.ofString "val") = some (.ref vl) → Fr h₀ L h' m' →
      News h₀ L h' ((vl, listOf (vals ++ [Value.str ⟨#[c]⟩ tc]).toArray (nv + 1)) :: (res, listOf vs.toArray nr) :: Z) → Q .next { s with heap := h', toks := tk' }) :
    wpAny (model PySem.Challenge.rw_ej5023_01.row.prog w) (ktrTop dp un gd (Str.ofString "_multirange_in.<locals>.f") (fnScope fDef) L f ccd [(Str.ofString "adapter", cA)] outer) (execs fLoop (envX (Str.ofString "_multirange_in.<locals>.f") (fnScope fDef) L f ccd [(Str.ofString "adapter", cA)])) Q E s := by
  obtain ⟨B, F0, X, T, hk, N, C1, C2, C3⟩ := AT
  have F : Fr h₀ L s.heap (fun y => if y = Str.ofString "c" then some (.str ⟨#[c]⟩ tc) else if y = Str.ofString "in_range" then some (.bool inr) else if y = Str.ofString "val" then some (.ref vl) else if y = Str.ofString "result" then some (.ref res) else m y) := by
    refine fr_ext F0 fun y => ?_
    (repeat' split) <;> first | rfl | (rename_i h9; rw [h9]; first | exact hm4.symm | exact hm1.symm | exact hm3.symm | exact hm2.symm)
  clear F0
  have hvl : vals.length ≤ 1000 := by rw [hvals.length_eq, List.length_map]; exact hcs
  w_top off; revert X; k_fill; intro X
  conv in fLoop => whnf
  repeat' ((fail_if_success (with_reducible show wpAny _ _ (call (Value.ref q) _) _ _ _)); first | (k_unfold; (try dsimp only)) | (k_end; wrow_close) | walk1 | (dsimp only; walk1) | (leave1; walk_say "STEP leave1"; try dsimp only) | fail "no step")
  · (rename inr = true => a1)
    (rename List.isEmpty _ = true => a2)
    (rename News h₀ L _ ((_, listOf (Array.push _ _) _) :: _) => N9)
    simp only [List.push_toArray] at N9
    rw [found_close] at a2
    subst a1
    exact K1 rfl (by simpa using a2) _ _ _ rfl rfl rfl (by assumption) N9
  · (rename inr = true => a1)
    (rename List.isEmpty _ = false => a2)
    rw [found_close] at a2
    have a3 : isClose c = true := by simpa using a2
    subst a1
    refine wpAny_mono (K2 rfl a3 _ _ _ _ _ rfl rfl (by assumption) (by assumption)) (fun v s₂ hv => ?_) fun _ _ e => e
    obtain ⟨h₂, tk₂, Z₂, rfl, F₂, N₂, hz₂, hg₂⟩ := hv
    k_steps
    (rename News h₀ L _ ((_, listOf #[] _) :: (_, listOf (Array.push _ _) _) :: _) => N9)
    simp only [List.push_toArray] at N9
    exact K3 rfl a3 v Z₂ _ _ _ _ _ hg₂ rfl rfl rfl (by assumption) N9
  · (rename inr = false => a1)
    (rename List.isEmpty _ = true => a2)
    rw [found_open] at a2
    subst a1
    exact K4 rfl (by simpa using a2) _ _ _ rfl rfl rfl (by assumption) (by assumption)
  · (rename inr = false => a1)
    (rename List.isEmpty _ = false => a2)
    rw [found_open] at a2
    subst a1
    (rename News h₀ L _ ((_, listOf (Array.push _ _) _) :: _) => N9)
    simp only [List.push_toArray] at N9
    exact K5 rfl (by simpa using a2) _ _ _ rfl rfl rfl (by assumption) N9

theorem pyIter_strX {prog : Program} {w : World} {A : Around} {E : Value → Shared → Prop} {s : Shared} {x : Str} {t : Tok} {Q : Value → Shared → Prop}
    (hQ : ∀ (o : Obj) (St : Nat → Heap → Prop), (∀ A' : Around, A'.handled = none → Walks prog w A' s.heap.objs.size [s.heap.objs.size] [s.heap.objs.size] x.cps.size (SignAt x) St) → St 0 (s.heap.push o) →
      (∀ i h, St i h → ∃ o, h.get? s.heap.objs.size = some o) → Q (.ref s.heap.objs.size) { s with heap := s.heap.push o }) : wpAny (model prog w) A (pyIter (.str x t)) Q E s := by
  cases ha : x.cps.all (· < 128)
  · exact wpAny_pyIter_wide ha (hQ _ _ (fun A' hA => Walks.strWide hA _ x t) ⟨_, Heap.get?_push_size _ rfl, rfl, rfl⟩ fun i h st => by obtain ⟨o, e, _⟩ := st; exact ⟨o, e⟩)
  · exact wpAny_pyIter_ascii ha (hQ _ _ (fun A' hA => Walks.strAscii hA _ x t) ⟨_, Heap.get?_push_size _ rfl, rfl, rfl⟩ fun i h st => by obtain ⟨o, e, _⟩ := st; exact ⟨o, e⟩)

/-- what holds between the turns of f's loop -/
def FInv (Inv : Led → List Span → List Value → Prop) (go : List Span → Span → Bool) (spans : List Span) (data : List Nat) (front R : Led) (vl res : Addr) (i : Nat) (m : Str → Option Value) (nx : Led) : Prop :=
  ∃ (inr : Bool) (v : List Nat) (d : List (List Nat)) (vals vs : List Value) (nv nr : Nat) (R' : Led),
    nx = (vl, listOf vals.toArray nv) :: (res, listOf vs.toArray nr) :: (front ++ R') ∧ scan (data.take i) = (inr, v, d) ∧ (inr = false → v = []) ∧ CarriedAll vals (v.map fun c => .str ⟨#[c]⟩) ∧
    Inv R' (spans.take d.length) vs ∧ (∀ j (h : j < spans.length), j < d.length → go (spans.take j) spans[j] = true) ∧
    m (Str.ofString "in_range") = some (.bool inr) ∧ m (Str.ofString "result") = some (.ref res) ∧ m (Str.ofString "val") = some (.ref vl) ∧
    (∀ r ∈ R', (∃ q ∈ R, q.1 = r.1) ∨ ∀ z ∈ front, z.1 < r.1) ∧ (∀ r ∈ R', r.1 ≠ vl ∧ r.1 ≠ res) ∧ True
set_option maxHeartbeats 1000000 in
theorem f_c {w : World} {p : Program} {loose : List Str} {mean : ExcName → Option Value} {mg mb : Str → Option Value}
    {dp un : Nat} {gd : Option (List Code)} {cn : Str} {cs : Scope} {a : Addr} {ccd : Value} {cl : List (Str × Addr)} {outer : List Env} {A₀ : Around} {base h₀ : Heap} {L : Addr} {m : Str → Option Value} {s : Shared} {Q E : Value → Shared → Prop}
    {f cA c' q : Addr} {oA oc : Obj} {vc : Array Value} {doc pm ct : Value} {tc : Tok} {qc : Value} {qd : Option Addr} {fd : FuncData} {qs : Array (Option Value)} {data : Str} {td : Tok} {front R : Led} {spans : List Span}
    {Inv : Led → List Span → List Value → Prop} {Bad : Led → List Span → Span → Prop} {go : List Span → Span → Bool} {d u : Nat} {ha : Addr}
    (AT : At w p loose mean mg mb cs outer A₀ base h₀ L m s.heap (front ++ R))
    (hf : (f, fObj [(Str.ofString "adapter", cA)] doc pm c' ct) ∈ front) (hc : (c', oc) ∈ front) (hA : (cA, oA) ∈ front)
    (hoc : oc.data = .fields vc) (hvc : vc[1]? = some (.str (Str.ofString "_multirange_in.<locals>.f") tc)) (hoA : oA.data = .cell (some (.ref q)))
    (hq : ∀ R xs vs, Inv R xs vs → (q, (⟨qc, qd, .func fd, qs⟩ : Obj)) ∈ R) (hlen : ∀ R xs vs, Inv R xs vs → vs.length = xs.length)
    (hI : Inv R [] []) (hhd : ∀ R xs vs, Inv R xs vs → ∃ o, (ha, o) ∈ R) (hoff : ∀ p ∈ front, p.1 ≠ ha) (AD : AdC w p loose mean mg mb d u (.ref q) ha Inv Bad go)
    (hscan : scan data.cps.toList = (false, [], spans.map Span.codes)) (hdl : data.length ≤ 900) (hsp : spans.length ≤ 7) (hok : ∀ x ∈ spans, spanOk x = true)
    (hdp : dp + d + 20 < recursionLimit) (hun : un + u + 200 < cLine)
    (hret : (∀ j (h : j < spans.length), go (spans.take j) spans[j] = true) → ∀ r vs R' n h' tk', Inv R' spans vs → Fr h₀ L h' m → News h₀ L h' ((r, listOf vs.toArray n) :: (front ++ R')) →
      (∀ x ∈ R', (∃ y ∈ R, y.1 = x.1) ∨ ∀ z ∈ front, z.1 < x.1) → (∀ x ∈ R', x.1 ≠ r) → (∀ x ∈ front ++ R, x.1 < r) → Q (.ref r) { s with heap := h', toks := tk' })
    (hexc : ∀ j (h : j < spans.length), go (spans.take j) spans[j] = false → (∀ i (hi : i < spans.length), i < j → go (spans.take i) spans[i] = true) → ∀ e G R' h' tk', Bad R' (spans.take j) spans[j] → Fr h₀ L G m →
      RaisedSN base G (envX cn cs L a ccd cl :: outer) e (.type "ValueError") (front ++ R') h' → G.UpToSlots h' → E (.ref e) { s with heap := h', toks := tk' }) :
    wpAny (model PySem.Challenge.rw_ej5023_01.row.prog w) (ktrTop dp un gd cn cs L a ccd cl outer) (call (.ref f) [.str data td]) Q E s := by
  obtain ⟨B, F, X, T, hk, N, C1, C2, C3⟩ := AT
  w_top off; revert X; k_fill; intro X
  refine wpAny_call ?_
  have hf' : (f, fObj [(Str.ofString "adapter", cA)] doc pm c' ct) ∈ front ++ R := List.mem_append_left _ hf
  have hc' : (c', oc) ∈ front ++ R := List.mem_append_left _ hc
  (refine' code_nest ?k1 ?k2 ?k3 ?k4 ?k5 ?kA ?kF ?kK ?k6 ?k7 ?k8 ?k9 ?kB ?_ ?c2 ?c3 ?c4 ?c5; (case kA => exact rfl); (case kF => exact rfl); (case kK => exact hk); (case k1 => k_asm); (case k2 => k_asm); (case k3 => k_asm); (case k4 => k_asm); (case k5 => k_asm); (case k6 => exact hf'); (case k7 => exact codeRec_news (by k_asm) hc' (by assumption) (by assumption)); (case k8 => ktr_room); (case k9 => exact BindsTo.of_eq rfl); (case c5 => decide); (case kB => exact locs rfl); (case c2 => exact rfl); (case c3 => exact rfl); (case c4 => exact rfl); k_whole; intro g' L' h' FG' F' N' B' X' T'; (try dsimp only); (try k_fold))
  have D1 := C1.keeps FG'.keep
  have D2 := C2.keeps FG'.keep
  have D3 := C3.keeps FG'.keep
  clear C1 C2 C3
  repeat' ((fail_if_success (with_reducible show wpAny _ _ (exec (Stmt.For _ _ _ _ _) _) _ _ _)); first | (k_unfold; (try dsimp only)) | (k_end; wrow_close) | walk1 | (dsimp only; walk1) | (leave1; walk_say "STEP leave1"; try dsimp only) | fail "no step")
  (rename Fr g' _ _ _ => F1)
  (rename News g' _ _ _ => N1)
  (with_unfolding_all refine' For_invVF F1 ?k1 ?k2 ?_; (case k1 => exact rfl); (case k2 => exact rfl))
  walk1
  refine pyIter_strX fun o St hW hst hSt => ?_
  rename_i x0 res x1 lres x2 vl x3 lvl x4
  have hrv : @LT.lt Nat _ res vl := lvl.1
  have hvR : ∀ r ∈ front ++ R, r.1 < vl := fun r hr => Nat.lt_trans (lres r hr) hrv
  refine kdr_loop (FInv Inv go spans data.cps.toList front R vl res) (hW _ rfl) (fun a h => h) (fun b h => h) (fun i h st b hb => by rw [List.mem_singleton.mp hb]; exact hSt i h st)
    (fun hm => absurd F1.ns.lt ((List.mem_singleton.mp hm) ▸ Nat.lt_irrefl _)) (fun b hb => by rw [List.mem_singleton.mp hb]; exact next_is_new F1)
    (fun p hp hI => absurd (Heap.lt_size (N1 p hp).1) ((List.mem_singleton.mp hI) ▸ Nat.lt_irrefl _)) hst (F1.push _) (fun p hp => ⟨Heap.get?_push_of_some _ (N1 p hp).1, (N1 p hp).2⟩)
    ⟨false, [], [], [], [], 0, 0, R, rfl, rfl, fun _ => rfl, .nil, hI, (fun _ _ h => absurd h (Nat.not_lt_zero _)), rfl, rfl, rfl, fun r hr => .inl ⟨r, hr, rfl⟩,
      fun r hr => ⟨Nat.ne_of_lt (hvR r (List.mem_append_right _ hr)), Nat.ne_of_lt (lres r (List.mem_append_right _ hr))⟩, trivial⟩ ?_ ?_
  · rintro i v₀ m₁ nx h tk₁ own hi ⟨c, tcc, hci, rfl⟩ hoff₁ ⟨inr, v, dn, vals, vs, nv, nr, R', rfl, hsc, hv0, hcar, hInv, hgo, hm1, hm2, hm3, hfresh, hne2, hoffR⟩ F₁ N₁
    have hci' : data.cps.toList[i]? = some c := by rw [Array.getElem?_toList]; exact hci
    have htk : data.cps.toList.take (i + 1) = data.cps.toList.take i ++ [c] := by rw [List.take_add_one, hci']; rfl
    have hsplit : data.cps.toList = data.cps.toList.take i ++ c :: data.cps.toList.drop (i + 1) := by
      have h1 := List.take_append_drop (i + 1) data.cps.toList
      rw [htk, List.append_assoc] at h1
      exact h1.symm
    have hsc1 : scan (data.cps.toList.take (i + 1)) = scanStep (inr, v, dn) c := by rw [htk, scan_snoc, hsc]
    have hat := scan_at hscan hsplit
    rw [hsc] at hat
    have hdn : dn.length ≤ spans.length := hat.2
    have hvlen : v.length ≤ 1000 := by
      have h1 := scan_len (data.cps.toList.take i)
      rw [hsc] at h1
      have h2 : (data.cps.toList.take i).length ≤ data.cps.toList.length := by rw [List.length_take]; omega
      have h3 : data.cps.toList.length = data.length := Array.length_toList
      have h4 : v.length ≤ (data.cps.toList.take i).length := h1
      omega
    have hvs : vs.length ≤ 1000 := by
      rw [hlen _ _ _ hInv, List.length_take]; omega
    have ownVl : ∀ p ∈ own, p.1 ≠ vl := fun p hp => hoff₁ p hp _ (.head _)
    have ownRes : ∀ p ∈ own, p.1 ≠ res := fun p hp => hoff₁ p hp _ (.tail _ (.head _))
    have ownFR : ∀ p ∈ own, ∀ q ∈ front ++ R', p.1 ≠ q.1 := fun p hp q hq => hoff₁ p hp _ (.tail _ (.tail _ (List.mem_map.mpr ⟨q, hq, rfl⟩)))
    have frVl : ∀ p ∈ front, p.1 ≠ vl := fun p hp => Nat.ne_of_lt (hvR p (List.mem_append_left _ hp))
    have frRes : ∀ p ∈ front, p.1 ≠ res := fun p hp => Nat.ne_of_lt (lres p (List.mem_append_left _ hp))
    have hZ1 : ∀ p ∈ (front ++ R') ++ own, p.1 ≠ vl := fun p hp => by
      rcases List.mem_append.mp hp with hp | hp
      · exact (List.mem_append.mp hp).elim (frVl p) fun h => (hne2 p h).1
      · exact ownVl p hp
    have hZ2 : ∀ p ∈ (front ++ R') ++ own, p.1 ≠ res := fun p hp => by
      rcases List.mem_append.mp hp with hp | hp
      · exact (List.mem_append.mp hp).elim (frRes p) fun h => (hne2 p h).2
      · exact ownRes p hp
    have fin : ∀ (inr' : Bool) (v' : List Nat) (dn' : List (List Nat)) (vals' vs' : List Value) (nv' nr' : Nat) (R'' : Led) (m' : Str → Option Value) (h' : Heap) (tk' : Nat) (Z' : Led),
        scan (data.cps.toList.take (i + 1)) = (inr', v', dn') → (inr' = false → v' = []) → CarriedAll vals' (v'.map fun c => .str ⟨#[c]⟩) → Inv R'' (spans.take dn'.length) vs' → (∀ j (h : j < spans.length), j < dn'.length → go (spans.take j) spans[j] = true) →
        m' (Str.ofString "in_range") = some (.bool inr') → m' (Str.ofString "result") = some (.ref res) → m' (Str.ofString "val") = some (.ref vl) → Fr g' L' h' m' →
        News g' L' h' ((vl, listOf vals'.toArray nv') :: (res, listOf vs'.toArray nr') :: Z') → (∀ p ∈ front ++ R'', p ∈ Z') → (∀ p ∈ own, p ∈ Z') →
        (∀ r ∈ R'', (∃ q ∈ R', q.1 = r.1) ∨ ((∀ z ∈ front, z.1 < r.1) ∧ vl < r.1 ∧ res < r.1 ∧ ∀ z ∈ own, z.1 < r.1)) →
        InvEndG g' L' (FInv Inv go spans data.cps.toList front R vl res (i + 1)) own { s with heap := h, toks := tk₁ } { s with heap := h', toks := tk' } := by
      intro inr' v' dn' vals' vs' nv' nr' R'' m' h' tk' Z' e1 e2 e3 e4 e5 e6 e7 e8 F' N' e9 e10 e11
      refine ⟨h', tk', m', _, _, rfl, F', N', ?_, fun p hp => .tail _ (.tail _ (e10 p hp)), ?_, inr', v', dn', vals', vs', nv', nr', R'', rfl, e1, e2, e3, e4, e5, e6, e7, e8, ?_, ?_, ?_⟩
      · intro p hp
        rcases List.mem_cons.mp hp with rfl | hp
        · exact .head _
        · rcases List.mem_cons.mp hp with rfl | hp
          · exact .tail _ (.head _)
          · exact .tail _ (.tail _ (e9 p hp))
      · intro p hp b hb e
        obtain ⟨q, hq, rfl⟩ := List.mem_map.mp hb
        rcases List.mem_cons.mp hq with rfl | hq
        · exact ownVl p hp e
        · rcases List.mem_cons.mp hq with rfl | hq
          · exact ownRes p hp e
          · rcases List.mem_append.mp hq with hq | hq
            · exact ownFR p hp q (List.mem_append_left _ hq) e
            · rcases e11 q hq with ⟨z, hz, hz2⟩ | ⟨_, _, _, h4⟩
              · exact ownFR p hp z (List.mem_append_right _ hz) (e.trans hz2.symm)
              · have := h4 p hp
                exact absurd e (Nat.ne_of_lt this)
      · intro r hr
        rcases e11 r hr with ⟨z, hz, hz2⟩ | ⟨h1, _⟩
        · rcases hfresh z hz with ⟨y, hy, hy2⟩ | h1
          · exact .inl ⟨y, hy, hy2.trans hz2⟩
          · exact .inr fun y hy => hz2 ▸ h1 y hy
        · exact .inr h1
      · intro r hr
        rcases e11 r hr with ⟨z, hz, hz2⟩ | ⟨_, h2, h3, _⟩
        · rw [← hz2]; exact hne2 z hz
        · exact ⟨(Nat.ne_of_lt h2).symm, (Nat.ne_of_lt h3).symm⟩
      · trivial
    have mem₁ : ∀ x ∈ front, x ∈ (front ++ R') ++ own := fun x hx => List.mem_append_left _ (List.mem_append_left _ hx)
    refine f_turn (dp := dp + 1) (un := un + 3) (outer := envX cn cs L a ccd cl :: outer) (A₀ := ktrTop dp un gd cn cs L a ccd cl outer) (Z := (front ++ R') ++ own) (vals := vals) (vs := vs) (nv := nv) (nr := nr) (inr := inr) (cs := v) (c := c) (tc := tcc)
      (Good := fun r Z₂ => ∃ R'', Z₂ = (front ++ own) ++ R'' ∧ Inv R'' (spans.take (dn.length + 1)) (vs ++ [r]) ∧ (∀ j (h : j < spans.length), j < dn.length + 1 → go (spans.take j) spans[j] = true) ∧
        ∀ r ∈ R'', (∃ q ∈ R', q.1 = r.1) ∨ ((∀ z ∈ front, z.1 < r.1) ∧ vl < r.1 ∧ res < r.1 ∧ ∀ z ∈ own, z.1 < r.1))
      ⟨B', F₁, X', T', rfl, N₁, D1, D2, D3⟩ (mem₁ _ hA) hoA (List.mem_append_left _ (List.mem_append_right _ (hq _ _ _ hInv))) hm1 hm2 hm3 rfl hcar hvlen hvs hZ1 hZ2 (Nat.ne_of_lt hrv) (by omega) (by omega) ?_ ?_ ?_ ?_ ?_
    · intro e1 e2 m' h' tk' a1 a2 a3 F9 N9
      subst e1
      exact fin true (v ++ [c]) dn _ vs _ nr R' m' h' tk' _ (by rw [hsc1, step_t, if_neg (by rw [e2]; decide)]) (fun h => nomatch h) (carried_snoc hcar) hInv hgo a1 a2 a3 F9 N9 (fun x hx => List.mem_append_left _ hx) (fun x hx => List.mem_append_right _ hx) fun r hr => .inl ⟨r, hr, rfl⟩
    · intro e1 e2 m' h' tk' t' n' a2 a3 F9 N9
      subst e1
      obtain ⟨hj, hcodes⟩ := scan_close hscan hsplit hsc e2
      have htext : (⟨(v ++ [c]).toArray⟩ : Str) = (spans[dn.length]'hj).text := by rw [hcodes]; rfl
      rw [htext]
      have htake : spans.take (dn.length + 1) = spans.take dn.length ++ [spans[dn.length]'hj] := by rw [List.take_add_one, List.getElem?_eq_getElem hj]; rfl
      refine AD (dp + 1) (un + 3) gd (Str.ofString "_multirange_in.<locals>.f") (fnScope fDef) f (.ref c') [(Str.ofString "adapter", cA)] (envX cn cs L a ccd cl :: outer) (ktrTop dp un gd cn cs L a ccd cl outer) base g' L' m' _ _ _
        ((vl, listOf #[] n') :: (res, listOf vs.toArray nr) :: (front ++ own)) R' (spans.take dn.length) vs (spans[dn.length]'hj) t' ⟨B', F9, X', T', rfl, news_sub N9 ?_, D1, D2, D3⟩ hInv (hok _ (List.getElem_mem hj)) (by rw [List.length_take]; omega) ?_ (by omega) (by omega) ?_ ?_
      · intro x hx
        simp only [List.mem_cons, List.mem_append, List.cons_append] at hx ⊢
        rcases hx with hx | hx | (hx | hx) | hx
        · exact .inl hx
        · exact .inr (.inl hx)
        · exact .inr (.inr (.inl (.inl hx)))
        · exact .inr (.inr (.inr hx))
        · exact .inr (.inr (.inl (.inr hx)))
      · intro x hx
        obtain ⟨oh, hr⟩ := hhd _ _ _ hInv
        rcases List.mem_cons.mp hx with rfl | hx
        · exact ((hne2 _ hr).1).symm
        · rcases List.mem_cons.mp hx with rfl | hx
          · exact ((hne2 _ hr).2).symm
          · rcases List.mem_append.mp hx with hx | hx
            · exact hoff x hx
            · exact ownFR x hx _ (List.mem_append_right _ hr)
      · intro hg9 v9 R'' h9 tk9 hI9 F8 N8 hfr9
        have hfr : ∀ r ∈ R'', (∃ q ∈ R', q.1 = r.1) ∨ ((∀ z ∈ front, z.1 < r.1) ∧ vl < r.1 ∧ res < r.1 ∧ ∀ z ∈ own, z.1 < r.1) := fun r hr => (hfr9 r hr).imp id fun k =>
          ⟨fun z hz => k z (.tail _ (.tail _ (List.mem_append_left _ hz))), k _ (.head _), k _ (.tail _ (.head _)), fun z hz => k z (.tail _ (.tail _ (List.mem_append_right _ hz)))⟩
        refine ⟨h9, tk9, (front ++ own) ++ R'', rfl, F8, N8, fun x hx => ?_, R'', rfl, by rw [htake]; exact hI9, fun j hj' hlt => ?_, hfr⟩
        · rcases List.mem_append.mp hx with hx | hx
          · exact (List.mem_append.mp hx).elim (frRes x) (ownRes x)
          · rcases hfr x hx with ⟨z, hz, hz2⟩ | ⟨_, _, k, _⟩
            · rw [← hz2]; exact (hne2 z hz).2
            · exact (Nat.ne_of_lt k).symm
        · rcases Nat.lt_succ_iff_lt_or_eq.mp hlt with h | h
          · exact hgo j hj' h
          · subst h; exact hg9
      · intro hg9 e9 G9 R'' h9 tk9 hbad FG9 RS9 U9
        k_unfold
        refine leaveX_on B' FG9 RS9 U9 rfl fun h10 R10 U10 => ?_
        exact hexc dn.length hj hg9 (fun i hi h => hgo i hi h) e9 g' R'' _ _ hbad FG' (raised_fewer R10 fun x hx => by
          rcases List.mem_append.mp hx with hx | hx
          · exact .tail _ (.tail _ (List.mem_append_left _ (List.mem_append_left _ hx)))
          · exact .tail _ (.tail _ (List.mem_append_right _ hx))) U10
    · intro e1 e2 v9 Z₂ m' h' tk' n' n'' hgood a1 a2 a3 F9 N9
      obtain ⟨R'', rfl, hI9, hgo9, hfr9⟩ := hgood
      subst e1
      refine fin false [] (dn ++ [v ++ [c]]) [] (vs ++ [v9]) n' n'' R'' m' h' tk' _ (by rw [hsc1, step_t, if_pos e2]) (fun _ => rfl) .nil (by simpa using hI9) (by simpa using hgo9) a1 a2 a3 F9 N9 (fun x hx => ?_) (fun x hx => List.mem_append_left _ (List.mem_append_right _ hx)) hfr9
      rcases List.mem_append.mp hx with hx | hx
      · exact List.mem_append_left _ (List.mem_append_left _ hx)
      · exact List.mem_append_right _ hx
    · intro e1 e2 m' h' tk' a1 a2 a3 F9 N9
      subst e1
      exact fin false v dn _ vs _ nr R' m' h' tk' _ (by rw [hsc1, step_f, if_neg (by rw [e2]; decide)]) hv0 hcar hInv hgo a1 a2 a3 F9 N9 (fun x hx => List.mem_append_left _ hx) (fun x hx => List.mem_append_right _ hx) fun r hr => .inl ⟨r, hr, rfl⟩
    · intro e1 e2 m' h' tk' a1 a2 a3 F9 N9
      subst e1
      exact fin true (v ++ [c]) dn _ vs _ nr R' m' h' tk' _ (by rw [hsc1, step_f, if_pos e2]) (fun h => nomatch h) (carried_snoc hcar) hInv hgo a1 a2 a3 F9 N9 (fun x hx => List.mem_append_left _ hx) (fun x hx => List.mem_append_right _ hx) fun r hr => .inl ⟨r, hr, rfl⟩
  · rintro m₁ nx h tk₁ ⟨inr, v, dn, vals, vs, nv, nr, R', rfl, hsc, hv0, hcar, hInv, hgo, hm1, hm2, hm3, hfresh, hne2, hoffR⟩ F₁ N₁
    have hall : data.cps.toList.take data.cps.size = data.cps.toList := List.take_of_length_le (by simp)
    rw [hall, hscan] at hsc
    obtain ⟨rfl, rfl, rfl⟩ : false = inr ∧ [] = v ∧ spans.map Span.codes = dn := by
      simpa using hsc
    rw [List.length_map, List.take_length] at hInv
    have F₂ : Fr g' L' h (fun y => if y = Str.ofString "result" then some (.ref res) else m₁ y) := by
      refine fr_ext F₁ fun y => ?_
      split
      · rename_i h9; rw [h9]; exact hm2.symm
      · rfl
    clear F₁ F1 N1
    dsimp only
    k_steps
    refine hret (fun j hj => hgo j hj (by rw [List.length_map]; exact hj)) res vs R' nr _ _ hInv (by assumption) ?_ hfresh (fun x hx => (hne2 x hx).2) lres
    (rename News h₀ L _ (_ :: _ :: _) => N9)
    exact news_sub N9 fun p hp => .tail _ hp

section
variable {M : Model} {A : Around} {E : Value → Shared → Prop} {s : Shared} {h₀ : Heap} {L C c : Addr} {m₂ : Str → Option Value} {news : List (Addr × Obj)} {oC o : Obj} {scope : Scope} {cl : List (Str × Addr)} {env : Env} {x : Str} {pos : Pos} {v : Value} {Q : Value → Shared → Prop}
theorem name_cv (N : News h₀ L s.heap news) (hm : (C, oC) ∈ news) (hoC : LCg.NsObj oC m₂) (hv : m₂ x = some v) (h : Q v s)
    (hk : (compEnvC scope cl C env).scope.kind = .function) (hx : (compEnvC scope cl C env).kindOf x = some .local) (hd : (x == ("__debug__" : Str)) = false) :
    wpAny M A (eval (.Name x pos) (compEnvC scope cl C env)) Q E s := wpAny_Name (wpAny_loadName_local hk hx (hoC.ns (N _ hm).1) hv h) hd
theorem name_cf (N : News h₀ L s.heap news) (hc : cl.lookup x = some c) (hm : (c, o) ∈ news) (hd : o.data = .cell (some v)) (h : Q v s)
    (hk : (compEnvC scope cl C env).scope.kind = .function) (hx : (compEnvC scope cl C env).kindOf x = some .free) (hb : (x == ("__debug__" : Str)) = false) (hn : (x == ("__classdict__" : Str)) = false) :
    wpAny M A (eval (.Name x pos) (compEnvC scope cl C env)) Q E s := wpAny_Name (wpAny_loadName_free hk hx hc ⟨o, N.get hm, hd⟩ h hn) hb
end

local macro_rules | `(tactic| walk_at "eval Name") => `(tactic| (k_here; (with_reducible show wpAny _ _ (eval (Expr.Name _ _) (compEnvC _ _ _ _)) _ _ _); k_dflt (first
  | (refine' name_cv ?N ?m ?o ?v ?_ ?a ?b ?c; (case a => rfl); (case b => rfl); (case c => decide); (case o => assumption); (case N => k_asm); (case m => k_mem); (case v => assumption); k_whole)
  | (refine' name_cf ?N ?c ?m ?d ?_ ?a ?b ?e ?f; (case a => rfl); (case b => rfl); (case e => decide); (case f => decide); (case N => k_asm); (case c => rfl); (case m => k_mem); (case d => k_asm); k_whole))))

def listCompOf : Stmt → Expr × Scope
  | .Assign _ (.ListComp e _ sc _) _ => (e, sc)
  | _ => (.Name (Str.ofString "v") ⟨0, 0, 0, 0⟩, { kind := .function, names := [], isGenerator := false, isCoroutine := false, more := [] })
def elseOf : Stmt → List Stmt
  | .If _ _ b _ => b
  | _ => []
def gComp : Expr × Scope := listCompOf (nthS (elseOf (nthS (fnBody gDef) 0)) 0)
set_option maxHeartbeats 600000 in
theorem g_turn {w : World} {p : Program} {loose : List Str} {mean : ExcName → Option Value} {mg mb : Str → Option Value}
    {dp un : Nat} {gd : Option (List Code)} {g : Addr} {ccd : Value} {cE : Addr} {outer : List Env} {A₀ : Around} {base h₀ : Heap} {L : Addr} {m : Str → Option Value} {s : Shared} {Q E : Value → Shared → Prop}
    {oE : Obj} {ha rd : Addr} {hs : List Value} {n : Nat} {stop : Int} {e : Str} {te : Tok} {own rest : Led} {C : Addr} {oC : Obj} {m₂ : Str → Option Value}
    (AT : At w p loose mean mg mb (fnScope gDef) outer A₀ base h₀ L m s.heap (own ++ (ha, listOf hs.toArray n) :: rest)) (hrd : RdIn (own ++ rest) rd ha stop) (hne : ∀ p ∈ own ++ rest, p.1 ≠ ha) (hlen : hs.length ≤ 100)
    (hE : (cE, oE) ∈ own ++ (ha, listOf hs.toArray n) :: rest) (hoE : oE.data = .cell (some (.ref rd))) (hC : (C, oC) ∈ own ++ (ha, listOf hs.toArray n) :: rest) (hoC : LCg.NsObj oC m₂) (hv : m₂ (Str.ofString "v") = some (.str e te))
    (hdp : dp + 1 < recursionLimit) (hun : un + 8 < cLine)
    (K0 : (e == Str.ofString "") = true → ∀ tk', Q .none { s with toks := tk' })
    (K1 : (e == Str.ofString "") = false → (hs.length : Int) + 1 ≠ stop → ∀ r t h' tk', Fr h₀ L h' m → @LT.lt Nat _ ha r → (∀ p ∈ own ++ rest, p.1 < r) →
      News h₀ L h' ((r, { cls := .type "tuple", data := .seq #[Value.int ((hs.length : Int) + 1) t, Value.str e te] }) :: (own ++ (ha, listOf (hs ++ [Value.str e te]).toArray (n + 1)) :: rest)) → Q (.ref r) { s with heap := h', toks := tk' })
    (K2 : (e == Str.ofString "") = false → (hs.length : Int) + 1 = stop → ∀ x G h' tk', Fr h₀ L G m → RaisedSN base G (envX (Str.ofString "_range_in.<locals>.range_in") (fnScope gDef) L g ccd [(Str.ofString "elem_func", cE)] :: outer) x (.type "ValueError") (own ++ (ha, listOf (hs ++ [Value.str e te]).toArray (n + 1)) :: rest) h' → G.UpToSlots h' → E (.ref x) { s with heap := h', toks := tk' }) :
    wpAny (model PySem.Challenge.rw_ej5023_01.row.prog w) (ktrTop dp un gd (Str.ofString "_range_in.<locals>.range_in") (fnScope gDef) L g ccd [(Str.ofString "elem_func", cE)] outer)
      (eval gComp.1 (compEnvC gComp.2 [(Str.ofString "elem_func", cE)] C (envX (Str.ofString "_range_in.<locals>.range_in") (fnScope gDef) L g ccd [(Str.ofString "elem_func", cE)]))) Q E s := by
  have hq : FnAt rd s.heap := by
    obtain ⟨_, _, _, _, _, _, _, _, _, _, _, _, h1, _⟩ := hrd
    have h2 := (List.mem_append.mp h1).elim (fun h => List.mem_append_left _ h) (fun h => List.mem_append_right (as := own) (bs := (ha, listOf hs.toArray n) :: rest) (List.mem_cons_of_mem _ h))
    exact FnAt.of AT.N h2
  have AT' := AT
  obtain ⟨B, F, X, T, hk, N, C1, C2, C3⟩ := AT
  w_top off; revert X; k_fill; intro X
  conv in gComp.1 => whnf
  conv in gComp.2 => whnf
  repeat' ((fail_if_success (with_reducible show wpAny _ _ (call (Value.ref rd) _) _ _ _)); first | (k_unfold; (try dsimp only)) | (k_end; wrow_close) | walk1 | (dsimp only; walk1) | (leave1; walk_say "STEP leave1"; try dsimp only) | fail "no step")
  · exact K0 (by assumption) _
  · (rename (e == Str.ofString "") = false => h9)
    refine callWith_F hq ?_
    repeat' ((fail_if_success (with_reducible show FnAt _ _ ∧ _)); first | (k_unfold; (try dsimp only)) | walk1 | (dsimp only; walk1) | fail "no step")
    refine ⟨hq, ?_⟩
    exact reader_u (s := { s with toks := _ }) AT' hrd hne hlen hdp hun (fun e1 r t h' tk' a b c d => K1 h9 e1 r t h' tk' a b c d) (fun e1 x G h' tk' a b c => K2 h9 e1 x G h' tk' a b c)

/-- the ends that are heard -/
def heardOf (es : List Str) : List Str := es.filter fun e => !(e == Str.ofString "")
/-- how an end's place tells it: None, or the count and the text -/
def marksD : Nat → List Str → List Dat
  | _, [] => []
  | k, e :: es => if e == Str.ofString "" then Dat.none :: marksD k es else Dat.tuple [.int ((k : Int) + 1), .str e] :: marksD (k + 1) es
def Span.sides (x : Span) : List Str := [x.lo, x.hi]
def endsOf (xs : List Span) : List Str := heardOf (xs.flatMap Span.sides)
theorem heardOf_append (a b : List Str) : heardOf (a ++ b) = heardOf a ++ heardOf b := by unfold heardOf; rw [List.filter_append]
theorem endsOf_append (a b : List Span) : endsOf (a ++ b) = endsOf a ++ endsOf b := by unfold endsOf; rw [List.flatMap_append, heardOf_append]
theorem endsOf_one (x : Span) : endsOf [x] = heardOf x.sides := by unfold endsOf; simp
theorem heardOf_e {e : Str} (h : (e == Str.ofString "") = true) : heardOf [e] = [] := by unfold heardOf; simp [h]
theorem heardOf_n {e : Str} (h : (e == Str.ofString "") = false) : heardOf [e] = [e] := by unfold heardOf; simp [h]
theorem marksD_append : ∀ (a b : List Str) (k : Nat), marksD k (a ++ b) = marksD k a ++ marksD (k + (heardOf a).length) b
  | [], b, k => by simp [marksD, heardOf]
  | e :: a, b, k => by
    rw [List.cons_append]
    have hc : heardOf (e :: a) = heardOf [e] ++ heardOf a := heardOf_append [e] a
    cases q : e == Str.ofString "" with
    | true => rw [hc, heardOf_e q]; simp only [marksD, q, if_true, List.cons_append, List.nil_append]; rw [marksD_append a b k]
    | false =>
      rw [hc, heardOf_n q]; simp only [marksD, q, List.cons_append, List.nil_append, List.length_cons]; rw [marksD_append a b (k + 1)]
      simp only [Bool.false_eq_true, if_false, List.cons_append]
      rw [show k + 1 + (heardOf a).length = k + ((heardOf a).length + 1) from by omega]
theorem marksD_len : ∀ (a : List Str) (k : Nat), (marksD k a).length = a.length
  | [], _ => rfl
  | e :: a, k => by unfold marksD; split <;> simp [marksD_len a]
theorem marksD_e {e : Str} (h : (e == Str.ofString "") = true) (k : Nat) : marksD k [e] = [Dat.none] := by simp [marksD, h]
theorem marksD_n {e : Str} (h : (e == Str.ofString "") = false) (k : Nat) : marksD k [e] = [Dat.tuple [.int ((k : Int) + 1), .str e]] := by simp [marksD, h]
theorem heardOf_len (a : List Str) : (heardOf a).length ≤ a.length := List.length_filter_le _ _
theorem endsOf_len (xs : List Span) : (endsOf xs).length ≤ 2 * xs.length := by
  refine Nat.le_trans (heardOf_len _) ?_
  induction xs with
  | nil => simp
  | cons x xs ih => rw [List.flatMap_cons, List.length_append, List.length_cons]; simp only [Span.sides, List.length_cons, List.length_nil]; omega
def goG (stop : Int) (xs : List Span) (x : Span) : Bool := decide (¬ (((endsOf xs).length : Int) < stop ∧ stop ≤ ((endsOf (xs ++ [x])).length : Int)))
theorem text_size (x : Span) : x.text.cps.size = x.mid.length + 2 := text_len x
theorem item_first (x : Span) : Txt.item x.text 0 = ⟨#[x.b0]⟩ := by
  have h := text_len x
  have h1 : seqIndex? 0 x.text.length = some 0 := by
    have : (0 : Int) < (x.text.length : Int) := by omega
    unfold seqIndex?
    simp
    omega
  unfold Txt.item Txt.charAt
  rw [h1]
  rfl
theorem item_last (x : Span) : Txt.item x.text (-1) = ⟨#[x.b1]⟩ := by
  have h := text_len x
  have h1 : seqIndex? (-1) x.text.length = some (x.mid.length + 1) := by
    have e : (-1 : Int) + (x.text.length : Int) = ((x.mid.length + 1 : Nat) : Int) := by omega
    unfold seqIndex?
    simp only [show (-1 : Int) < 0 from by decide, if_true, e]
    rw [if_pos (by simp only [Bool.and_eq_true, decide_eq_true_eq]; omega)]
    rfl
  have : x.text.cps[x.mid.length + 1]? = some x.b1 := by
    rw [← Array.getElem?_toList, text_list, codes_eq, List.getElem?_cons_succ, List.getElem?_append_right (Nat.le_refl _)]
    simp
  unfold Txt.item Txt.charAt
  rw [h1, Option.bind_some, this]
  rfl
abbrev rangeDict (P : Params) (t1 t2 t3 t4 : Tok) (lo hi : Value) (b : Str) (tb : Tok) (e : Bool) : Obj :=
  dictOf [⟨PyData.keyHash P (Str.ofString "lower"), .str (Str.ofString "lower") t1, lo⟩, ⟨PyData.keyHash P (Str.ofString "upper"), .str (Str.ofString "upper") t2, hi⟩,
    ⟨PyData.keyHash P (Str.ofString "bounds"), .str (Str.ofString "bounds") t3, .str b tb⟩, ⟨PyData.keyHash P (Str.ofString "is_empty"), .str (Str.ofString "is_empty") t4, .bool e⟩] 4
/-- what range_in hands back for a span, k ends heard before -/
def RangeIs (P : Params) (tl : Led) (v : Value) (k : Nat) (x : Span) : Prop :=
  ∃ (xo dx : Addr) (t1 t2 t3 t4 tb : Tok) (y1 y2 : Value), v = .ref xo ∧ (xo, instObj 51 dx) ∈ tl ∧ (dx, rangeDict P t1 t2 t3 t4 y1 y2 ⟨#[x.b0, x.b1]⟩ tb false) ∈ tl ∧ DatAll tl [y1, y2] (marksD k x.sides)
theorem RangeIs.mono {P : Params} {tl tl' : Led} {v : Value} {k : Nat} {x : Span} (h : RangeIs P tl v k x) (hs : ∀ p ∈ tl, p ∈ tl') : RangeIs P tl' v k x := by
  obtain ⟨xo, dx, t1, t2, t3, t4, tb, y1, y2, h1, h2, h3, h4⟩ := h
  exact ⟨xo, dx, t1, t2, t3, t4, tb, y1, y2, h1, hs _ h2, hs _ h3, h4.mono hs⟩
def RangesAre (P : Params) (tl : Led) : List Value → Nat → List Span → Prop
  | [], _, [] => True
  | v :: vs, k, x :: xs => RangeIs P tl v k x ∧ RangesAre P tl vs (k + (heardOf x.sides).length) xs
  | _, _, _ => False
theorem RangesAre.mono {P : Params} {tl tl' : Led} (hs : ∀ p ∈ tl, p ∈ tl') : ∀ {vs : List Value} {k : Nat} {xs : List Span}, RangesAre P tl vs k xs → RangesAre P tl' vs k xs
  | [], _, [], _ => trivial
  | _ :: _, _, _ :: _, h => ⟨h.1.mono hs, RangesAre.mono hs h.2⟩
theorem RangesAre.length {P : Params} {tl : Led} : ∀ {vs : List Value} {k : Nat} {xs : List Span}, RangesAre P tl vs k xs → vs.length = xs.length
  | [], _, [], _ => rfl
  | _ :: _, _, _ :: _, h => by rw [List.length_cons, List.length_cons, RangesAre.length h.2]
theorem RangesAre.snoc {P : Params} {tl : Led} {v : Value} {x : Span} : ∀ {vs : List Value} {k : Nat} {xs : List Span}, RangesAre P tl vs k xs → RangeIs P tl v (k + (endsOf xs).length) x → RangesAre P tl (vs ++ [v]) k (xs ++ [x])
  | [], k, [], _, h => by
    rw [show (endsOf ([] : List Span)).length = 0 from rfl, Nat.add_zero] at h
    exact ⟨h, trivial⟩
  | _ :: vs, k, y :: xs, h, h2 => by
    refine ⟨h.1, RangesAre.snoc h.2 ?_⟩
    have e : endsOf (y :: xs) = heardOf y.sides ++ endsOf xs := by rw [← endsOf_one y, ← endsOf_append]; rfl
    rw [e, List.length_append] at h2
    rwa [Nat.add_assoc]
/-- what range_in leaves: the list of what was heard, all it made, what stood before -/
def GInv (P : Params) (ha : Addr) (R₀ R : Led) (xs : List Span) (vs : List Value) : Prop :=
  ∃ (tl : Led) (hs : List Value) (n : Nat), R = (ha, listOf hs.toArray n) :: (tl ++ R₀) ∧ StrsAre hs (endsOf xs) ∧ RangesAre P tl vs 0 xs ∧ ∀ p ∈ tl, @LT.lt Nat _ ha p.1
def GBad (ha : Addr) (stop : Int) (R₀ R : Led) (xs : List Span) (x : Span) : Prop :=
  ∃ (tl : Led) (hs : List Value) (n : Nat), R = (ha, listOf hs.toArray n) :: (tl ++ R₀) ∧ StrsAre hs ((endsOf (xs ++ [x])).take stop.toNat) ∧ ∀ p ∈ tl, @LT.lt Nat _ ha p.1

theorem sides_turn {x : Span} {i : Nat} {v : Value} {t4 t5 : Tok} (h : (#[Value.str x.lo t4, Value.str x.hi t5] : Array Value)[i]? = some v) :
    ∃ e te rest, v = .str e te ∧ x.sides.take (i + 1) = x.sides.take i ++ [e] ∧ x.sides = (x.sides.take i ++ [e]) ++ rest ∧ i < 2 := by
  match i, h with
  | 0, h => cases h; exact ⟨x.lo, t4, [x.hi], rfl, rfl, rfl, by omega⟩
  | 1, h => cases h; exact ⟨x.hi, t5, [], rfl, rfl, rfl, by omega⟩
  | n + 2, h => simp at h
set_option maxHeartbeats 1000000 in
theorem g_c {w : World} {p : Program} {loose : List Str} {mean : ExcName → Option Value} {mg mb : Str → Option Value}
    {dp un : Nat} {gd : Option (List Code)} {cn : Str} {cs : Scope} {a : Addr} {ccd : Value} {cl : List (Str × Addr)} {outer : List Env} {A₀ : Around} {base h₀ : Heap} {L : Addr} {m : Str → Option Value} {s : Shared} {Q E : Value → Shared → Prop}
    {g cE c' : Addr} {oE oc : Obj} {vc : Array Value} {doc pm ct : Value} {tc : Tok} {ha rd : Addr} {stop : Int} {x : Span} {td : Tok} {front tl R₀ : Led} {hs : List Value} {n : Nat} {es : List Str}
    (AT : At w p loose mean mg mb cs outer A₀ base h₀ L m s.heap (front ++ (ha, listOf hs.toArray n) :: (tl ++ R₀)))
    (hg : (g, gObj [(Str.ofString "elem_func", cE)] doc pm c' ct) ∈ R₀) (hc : (c', oc) ∈ R₀) (hE : (cE, oE) ∈ R₀)
    (hoc : oc.data = .fields vc) (hvc : vc[1]? = some (.str (Str.ofString "_range_in.<locals>.range_in") tc)) (hoE : oE.data = .cell (some (.ref rd)))
    (hrd : RdIn R₀ rd ha stop) (hne : ∀ p ∈ R₀, p.1 ≠ ha) (htl : ∀ p ∈ tl, @LT.lt Nat _ ha p.1) (hoff : ∀ q ∈ front, q.1 ≠ ha) (hh : StrsAre hs es) (hes : es.length ≤ 20)
    (hx : spanOk x = true)
    (hdp : dp + 20 < recursionLimit) (hun : un + 200 < cLine)
    (hret : (¬ (((es.length : Nat) : Int) < stop ∧ stop ≤ ((es.length + (heardOf x.sides).length : Nat) : Int))) → ∀ v hs' n' tl' h' tk', StrsAre hs' (es ++ heardOf x.sides) → RangeIs w.params tl' v es.length x → (∀ p ∈ tl', @LT.lt Nat _ ha p.1 ∧ ∀ z ∈ front, z.1 < p.1) →
      Fr h₀ L h' m → News h₀ L h' (front ++ (ha, listOf hs'.toArray n') :: (tl' ++ (tl ++ R₀))) → Q v { s with heap := h', toks := tk' })
    (hexc : (((es.length : Nat) : Int) < stop ∧ stop ≤ ((es.length + (heardOf x.sides).length : Nat) : Int)) → ∀ e G hs' n' tl' h' tk', StrsAre hs' ((es ++ heardOf x.sides).take stop.toNat) → (∀ p ∈ tl', @LT.lt Nat _ ha p.1) →
      Fr h₀ L G m → RaisedSN base G (envX cn cs L a ccd cl :: outer) e (.type "ValueError") (front ++ (ha, listOf hs'.toArray n') :: (tl' ++ (tl ++ R₀))) h' → G.UpToSlots h' → E (.ref e) { s with heap := h', toks := tk' }) :
    wpAny (model PySem.Challenge.rw_ej5023_01.row.prog w) (ktrTop dp un gd cn cs L a ccd cl outer) (call (.ref g) [.str x.text td]) Q E s := by
  obtain ⟨B, F, X, T, hk, N, C1, C2, C3⟩ := AT
  w_top off; revert X; k_fill; intro X
  refine wpAny_call ?_
  have up : ∀ q ∈ R₀, q ∈ front ++ (ha, listOf hs.toArray n) :: (tl ++ R₀) := fun q hq => List.mem_append_right _ (.tail _ (List.mem_append_right _ hq))
  have hg' := up _ hg
  have hc' := up _ hc
  have hE' := up _ hE
  (refine' code_nest ?k1 ?k2 ?k3 ?k4 ?k5 ?kA ?kF ?kK ?k6 ?k7 ?k8 ?k9 ?kB ?_ ?c2 ?c3 ?c4 ?c5; (case kA => exact rfl); (case kF => exact rfl); (case kK => exact hk); (case k1 => k_asm); (case k2 => k_asm); (case k3 => k_asm); (case k4 => k_asm); (case k5 => k_asm); (case k6 => exact hg'); (case k7 => exact codeRec_news (by k_asm) hc' (by assumption) (by assumption)); (case k8 => ktr_room); (case k9 => exact BindsTo.of_eq rfl); (case c5 => decide); (case kB => exact locs rfl); (case c2 => exact rfl); (case c3 => exact rfl); (case c4 => exact rfl); k_whole; intro g' L' h' FG' F' N' B' X' T'; (try dsimp only); (try k_fold))
  have D1 := C1.keeps FG'.keep
  have D2 := C2.keeps FG'.keep
  have D3 := C3.keeps FG'.keep
  clear C1 C2 C3
  repeat' ((fail_if_success (with_reducible show wpAny _ _ (eval (Expr.ListComp _ _ _ _) _) _ _ _)); (fail_if_success (with_reducible show wpAny _ _ (call (Value.ref 51) _ _) _ _ _)); first | (k_unfold; (try dsimp only)) | (k_end; wrow_close) | walk1 | (dsimp only; walk1) | (leave1; walk_say "STEP leave1"; try dsimp only) | fail "no step")
  · (rename (x.text == Str.ofString "empty") = true => h9)
    rw [text_not_empty x hx] at h9
    cases h9
  · (rename Fr g' _ _ _ => F1)
    refine comp_x (base := base) (h₀ := g') (L := L') (outer := envX cn cs L a ccd cl :: outer) F1 rfl rfl rfl rfl (by decide) rfl (by decide) rfl ?_
    repeat' ((fail_if_success (with_reducible show wpAny _ _ (subscriptTail _ _ _ _) _ _ _)); first | (k_unfold; (try dsimp only)) | (k_end; wrow_close) | walk1 | (dsimp only; walk1) | (leave1; walk_say "STEP leave1"; try dsimp only) | fail "no step")
    have hsz9 : x.text.length ≤ sizeLine := by rw [PySem.sizeLine_eq]; have := text_le hx; omega
    refine slice_strN_ss (hsz := hsz9) (s := ⟨_, _, _, _, _⟩) F1 N' ?_
    intro h2 t2 k2 F2 N2
    rw [slice_mid]
    repeat' ((fail_if_success (with_reducible show wpAny _ _ (call (Value.builtin _) _) _ _ _)); first | (k_unfold; (try dsimp only)) | (k_end; wrow_close) | walk1 | (dsimp only; walk1) | (leave1; walk_say "STEP leave1"; try dsimp only) | fail "no step")
    have hsz8 : (⟨x.mid.toArray⟩ : Str).length + 2 ≤ sizeLine := by
      rw [PySem.sizeLine_eq]
      have := mid_len hx
      show x.mid.toArray.size + 2 ≤ _
      rw [List.size_toArray]; omega
    refine splitN1 (hsz := hsz8) F2 N2 (by rfl) ?_
    intro l3 h3 k3 e3 F3 N3
    rw [split_mid hx] at e3
    obtain ⟨t4, t5, rfl⟩ := two_of e3
    simp only [strValues, List.map_cons, List.map_nil] at N3
    have hsl : ∀ z ∈ front ++ (ha, listOf hs.toArray n) :: (tl ++ R₀), z.1 < h2.objs.size := fun z hz => Heap.lt_size (N2 z hz).1
    generalize hsq : h2.objs.size = sl at *
    refine ⟨sl, #[Value.str x.lo t4, Value.str x.hi t5], 0, _,
      fun i ys nx => ∃ hs' n' tl', nx = (sl, listOf #[Value.str x.lo t4, Value.str x.hi t5] 0) :: (front ++ (ha, listOf hs'.toArray n') :: (tl' ++ (tl ++ R₀))) ∧ StrsAre hs' (es ++ heardOf (x.sides.take i)) ∧ DatAll tl' ys (marksD es.length (x.sides.take i)) ∧
        (∀ p ∈ tl', @LT.lt Nat _ ha p.1 ∧ ∀ z ∈ front, z.1 < p.1) ∧ (¬ (((es.length : Nat) : Int) < stop ∧ stop ≤ ((es.length + (heardOf (x.sides.take i)).length : Nat) : Int))),
      fun nx => ∃ hs' n' tl', nx = (sl, listOf #[Value.str x.lo t4, Value.str x.hi t5] 0) :: (front ++ (ha, listOf hs'.toArray n') :: (tl' ++ (tl ++ R₀))) ∧ StrsAre hs' ((es ++ heardOf x.sides).take stop.toNat) ∧ (∀ p ∈ tl', @LT.lt Nat _ ha p.1) ∧
        (((es.length : Nat) : Int) < stop ∧ stop ≤ ((es.length + (heardOf x.sides).length : Nat) : Int)), rfl, F3, N3, ?_, by simp [PySem.sizeLine_eq], ?_, ?_, ?_, ?_⟩
    · rintro i ys nx ⟨hs', n', tl', rfl, _⟩
      exact List.mem_cons_self
    · refine ⟨hs, n, [], rfl, ?_, .nil, fun p hp => (nomatch hp), ?_⟩
      · rw [show x.sides.take 0 = [] from rfl, show heardOf [] = [] from rfl, List.append_nil]; exact hh
      · rw [show x.sides.take 0 = [] from rfl, show heardOf [] = [] from rfl]; simp only [List.length_nil]; omega
    · rintro i v ys nx I oI C oC D m₂ h tk hi ⟨hs', n', tl', rfl, J1, J2, J3, J4⟩ hoC hv F4 N4 off4 ⟨ne1, ne2, ne3⟩
      obtain ⟨e, te, rst, rfl, hs1, hs2, hi2⟩ := sides_turn hi
      have hl1 : hs'.length = es.length + (heardOf (x.sides.take i)).length := by rw [J1.length, List.length_append]
      have hl2 : (heardOf (x.sides.take i)).length ≤ 2 := Nat.le_trans (heardOf_len _) (by rw [List.length_take]; omega)
      have off4m := off4.mem
      have upR : ∀ q ∈ R₀, q ∈ ((I, oI) :: (C, oC) :: (D, LCg.lst ys) :: (sl, listOf #[Value.str x.lo t4, Value.str x.hi t5] 0) :: front) ++ (tl' ++ (tl ++ R₀)) := fun q hq => List.mem_append_right _ (List.mem_append_right _ (List.mem_append_right _ hq))
      have hI := (off4m (ha, listOf hs'.toArray n') (.tail _ (List.mem_append_right _ (.head _))))
      have hsl9 : @LT.lt Nat _ ha sl := hsl (ha, listOf hs.toArray n) (List.mem_append_right _ (.head _))
      have ownOff : ∀ q ∈ ((I, oI) :: (C, oC) :: (D, LCg.lst ys) :: (sl, listOf #[Value.str x.lo t4, Value.str x.hi t5] 0) :: front) ++ (tl' ++ (tl ++ R₀)), q.1 ≠ ha := by
        intro q hq
        simp only [List.mem_append, List.mem_cons, List.cons_append] at hq
        rcases hq with rfl | rfl | rfl | rfl | hq | hq | hq | hq
        · exact Ne.symm hI.1
        · exact Ne.symm hI.2.1
        · exact Ne.symm hI.2.2
        · exact (Nat.ne_of_lt hsl9).symm
        · exact hoff q hq
        · exact Nat.ne_of_gt (J3 q hq).1
        · exact Nat.ne_of_gt (htl q hq)
        · exact hne q hq
      refine g_turn (dp := dp + 1) (un := un + 3) (outer := envX cn cs L a ccd cl :: outer) (A₀ := ktrTop dp un gd cn cs L a ccd cl outer) (own := (I, oI) :: (C, oC) :: (D, LCg.lst ys) :: (sl, listOf #[Value.str x.lo t4, Value.str x.hi t5] 0) :: front) (rest := tl' ++ (tl ++ R₀))
        (ha := ha) (rd := rd) (hs := hs') (n := n') (stop := stop) (e := e) (te := te) (oE := oE) (oC := oC) (C := C) (m₂ := m₂)
        ⟨B', F4, X', T', rfl, N4, D1, D2, D3⟩ (hrd.mono upR) ownOff (by omega) (List.mem_append_right _ (.tail _ (List.mem_append_right _ (List.mem_append_right _ hE)))) hoE (.tail _ (.head _)) hoC hv (by omega) (by omega) ?_ ?_ ?_
      · intro h9 tk'
        refine ⟨h, tk', _, rfl, F4, N4, off4, hs', n', tl', rfl, ?_, ?_, J3, ?_⟩
        · rw [hs1, heardOf_append, heardOf_e h9, List.append_nil]; exact J1
        · rw [hs1, marksD_append, marksD_e h9]; exact J2.append (.one .none)
        · rw [hs1, heardOf_append, heardOf_e h9, List.append_nil]; exact J4
      · intro h9 hst r t h6 tk' F6 hr1 hr2 N6
        refine ⟨h6, tk', (sl, listOf #[Value.str x.lo t4, Value.str x.hi t5] 0) :: (front ++ (ha, listOf (hs' ++ [Value.str e te]).toArray (n' + 1)) :: (((r, { cls := .type "tuple", data := .seq #[Value.int ((hs'.length : Int) + 1) t, Value.str e te] }) :: tl') ++ (tl ++ R₀))), rfl, F6, ?_, ?_, hs' ++ [Value.str e te], n' + 1, _, rfl, ?_, ?_, ?_, ?_⟩
        · refine news_sub N6 fun q hq => ?_
          simp only [List.mem_append, List.mem_cons, List.cons_append] at hq ⊢
          rcases hq with h | h | h | h | h | h | h | h | h | h
          · exact .inr (.inl h)
          · exact .inr (.inr (.inl h))
          · exact .inr (.inr (.inr (.inl h)))
          · exact .inr (.inr (.inr (.inr (.inl h))))
          · exact .inr (.inr (.inr (.inr (.inr (.inl h)))))
          · exact .inr (.inr (.inr (.inr (.inr (.inr (.inl h))))))
          · exact .inl h
          · exact .inr (.inr (.inr (.inr (.inr (.inr (.inr (.inl h)))))))
          · exact .inr (.inr (.inr (.inr (.inr (.inr (.inr (.inr (.inl h))))))))
          · exact .inr (.inr (.inr (.inr (.inr (.inr (.inr (.inr (.inr h))))))))
        · refine LCg.Off3.of fun q hq => ?_
          simp only [List.mem_append, List.mem_cons, List.cons_append] at hq
          rcases hq with rfl | hq | rfl | rfl | hq | hq | hq
          · exact off4m _ (.head _)
          · exact off4m q (.tail _ (List.mem_append_left _ hq))
          · exact hI
          · exact ⟨(Nat.ne_of_lt (hr2 (I, oI) (.head _))).symm, (Nat.ne_of_lt (hr2 (C, oC) (.tail _ (.head _)))).symm, (Nat.ne_of_lt (hr2 (D, LCg.lst ys) (.tail _ (.tail _ (.head _))))).symm⟩
          · exact off4m q (.tail _ (List.mem_append_right _ (.tail _ (List.mem_append_left _ hq))))
          · exact off4m q (.tail _ (List.mem_append_right _ (.tail _ (List.mem_append_right _ (List.mem_append_left _ hq)))))
          · exact off4m q (.tail _ (List.mem_append_right _ (.tail _ (List.mem_append_right _ (List.mem_append_right _ hq)))))
        · rw [hs1, heardOf_append, heardOf_n h9, ← List.append_assoc]; exact J1.append' (.cons _ _ .nil)
        · rw [hs1, marksD_append, marksD_n h9]
          refine (J2.mono fun q hq => List.mem_cons_of_mem _ hq).append (.one ?_)
          rw [← hl1]
          exact .tuple (vs := [Value.int ((hs'.length : Int) + 1) t, Value.str e te]) List.mem_cons_self (.cons (.int _ _) (.cons (.str _ _) .nil))
        · intro q hq
          rcases List.mem_cons.mp hq with rfl | hq
          · exact ⟨hr1, fun z hz => hr2 z (List.mem_append_left _ (.tail _ (.tail _ (.tail _ (.tail _ hz)))))⟩
          · exact J3 q hq
        · rw [hs1, heardOf_append, heardOf_n h9]; simp only [List.length_append, List.length_cons, List.length_nil]; omega
      · intro h9 hst xe G h6 tk' FG6 R6 U6
        refine ⟨xe, G, oC, m₂, (sl, listOf #[Value.str x.lo t4, Value.str x.hi t5] 0) :: (front ++ (ha, listOf (hs' ++ [Value.str e te]).toArray (n' + 1)) :: (tl' ++ (tl ++ R₀))), h6, tk', rfl, rfl, hoC, ?_, FG6, raised_fewer R6 ?_, U6, hs' ++ [Value.str e te], n' + 1, tl', rfl, ?_, fun q hq => (J3 q hq).1, ?_⟩
        · intro q hq
          simp only [List.mem_append, List.mem_cons] at hq
          rcases hq with rfl | hq | rfl | hq | hq | hq
          · exact (off4m _ (.head _)).2.1
          · exact (off4m q (.tail _ (List.mem_append_left _ hq))).2.1
          · exact hI.2.1
          · exact (off4m q (.tail _ (List.mem_append_right _ (.tail _ (List.mem_append_left _ hq))))).2.1
          · exact (off4m q (.tail _ (List.mem_append_right _ (.tail _ (List.mem_append_right _ (List.mem_append_left _ hq)))))).2.1
          · exact (off4m q (.tail _ (List.mem_append_right _ (.tail _ (List.mem_append_right _ (List.mem_append_right _ hq)))))).2.1
        · intro q hq
          simp only [List.mem_append, List.mem_cons, List.cons_append] at hq ⊢
          rcases hq with h | h | h | h | h
          · exact .inr (.inl h)
          · exact .inr (.inr (.inr (.inl h)))
          · exact .inr (.inr (.inr (.inr (.inl h))))
          · exact .inr (.inr (.inr (.inr (.inr (.inl h)))))
          · exact .inr (.inr (.inr (.inr (.inr (.inr h)))))
        · have hb : heardOf x.sides = heardOf (x.sides.take i) ++ [e] ++ heardOf rst := by
            have q := congrArg heardOf hs2
            rw [heardOf_append, heardOf_append, heardOf_n h9] at q
            exact q
          have e3 : (es ++ heardOf x.sides).take stop.toNat = (es ++ heardOf (x.sides.take i)) ++ [e] := by
            rw [hb]
            rw [show es ++ (heardOf (x.sides.take i) ++ [e] ++ heardOf rst) = (es ++ heardOf (x.sides.take i) ++ [e]) ++ heardOf rst from by simp only [List.append_assoc]]
            rw [List.take_append_of_le_length (by simp only [List.length_append, List.length_cons, List.length_nil]; omega), List.take_of_length_le (by simp only [List.length_append, List.length_cons, List.length_nil]; omega)]
          rw [e3]; exact J1.append' (.cons _ _ .nil)
        · have e4 : (heardOf x.sides).length = (heardOf (x.sides.take i)).length + 1 + (heardOf rst).length := by
            have q := congrArg heardOf hs2
            rw [heardOf_append, heardOf_append, heardOf_n h9] at q
            rw [q]; simp only [List.length_append, List.length_cons, List.length_nil]
          rw [e4]; omega
    · rintro D h4 k4 ys nx ⟨hs', n', tl', rfl, J1, J2, J3, J4⟩ F4 N4 off4
      obtain ⟨y1, y2, rfl⟩ : ∃ y1 y2, ys = [y1, y2] := by
        have := J2.length
        rw [marksD_len] at this
        match ys, this with
        | [y1, y2], _ => exact ⟨y1, y2, rfl⟩
      clear N N' N2 N3
      repeat' ((fail_if_success (with_reducible show wpAny _ _ (subscriptTail _ _ _ _) _ _ _)); first | (k_unfold; (try dsimp only)) | (k_end; wrow_close) | walk1 | (dsimp only; walk1) | (leave1; walk_say "STEP leave1"; try dsimp only) | fail "no step")
      refine item_str (by decide) (by have := text_len x; omega) (by have := text_len x; omega) fun _ => ?_
      rw [item_first]
      repeat' ((fail_if_success (with_reducible show wpAny _ _ (subscriptTail _ _ _ _) _ _ _)); first | (k_unfold; (try dsimp only)) | (k_end; wrow_close) | walk1 | (dsimp only; walk1) | (leave1; walk_say "STEP leave1"; try dsimp only) | fail "no step")
      refine item_str (by decide) (by have := text_len x; omega) (by have := text_len x; omega) fun _ => ?_
      rw [item_last]
      repeat' ((fail_if_success (with_reducible show wpAny _ _ (call (Value.ref 51) _ _) _ _ _)); first | (k_unfold; (try dsimp only)) | (k_end; wrow_close) | walk1 | (dsimp only; walk1) | (leave1; walk_say "STEP leave1"; try dsimp only) | fail "no step")
      (rename Fr g' _ _ _ => F8)
      (rename News g' _ _ _ => N8)
      generalize hZ : ((D, LCg.lst [y1, y2]) :: _ : Led) = Z at N8
      refine' call_cls ?k1 ?k2 ?k3 ?k4 ?k5 ?k6 ?_; (case k1 => exact F8); (case k2 => exact X'); (case k3 => exact N8); (case k4 => k_is); (case k5 => k_is); (case k6 => k_is); k_whole; intro xo dx h8 F' N' l1 l2
      have n1 : ∀ p ∈ Z, p.1 ≠ dx := fun p hp => Nat.ne_of_lt (l1 p hp)
      have n2 : ∀ p ∈ Z, p.1 ≠ xo := fun p hp => Nat.ne_of_lt (Nat.lt_trans (l1 p hp) l2)
      k_lt2 l2
      (refine' code_def ?k1 ?k2 ?k3 ?k4 ?k5 ?kA ?kF ?kK ?k6 ?k7 ?k8 ?k9 ?kB ?_ ?c2 ?c3 ?c4 ?c5; (case kA => exact rfl); (case kF => exact rfl); (case kK => exact rfl); (case k1 => k_asm); (case k2 => k_asm); (case k3 => k_asm); (case k4 => k_asm); (case k5 => k_asm); (case k6 => k_is); (case k7 => k_is); (case k8 => (simp only [depth_under_kw]; ktr_room)); (case k9 => first | exact BindsTo.of_eq rfl | exact binds_K (by k_in) rfl (by k_is) rfl rfl rfl | fail "k_enter: no rule for these arguments"); (case c5 => decide); (case kB => exact locs rfl); (case c2 => exact rfl); (case c3 => exact rfl); (case c4 => exact rfl); k_whole; intro g8 L8 h9 FG8 F9 N9 B9 X9 T9; (try dsimp only); (try k_fold))
      repeat' (first | (k_unfold; (try dsimp only)) | (k_end; wrow_close) | walk1 | (dsimp only; walk1) | (leave1; walk_say "STEP leave1"; try dsimp only) | fail "no step")
      (rename News h₀ L _ _ => N12)
      (rename Fr h₀ L _ _ => F12)
      clear N8 F8
      subst hZ
      have e2 : x.sides.take (#[Value.str x.lo t4, Value.str x.hi t5] : Array Value).size = x.sides := rfl
      rw [e2] at J1 J2 J4
      have eb : (Str.empty ++ ⟨#[x.b0]⟩ ++ ⟨#[x.b1]⟩ : Str) = ⟨#[x.b0, x.b1]⟩ := by
        apply str_ext
        simp [cat_list, Str.empty]
      rw [eb] at N12
      have N13 : ∃ u1 u2 u3 u4 u5, News h₀ L _ ((xo, instObj 51 dx) :: (dx, rangeDict w.params u1 u2 u3 u4 y1 y2 ⟨#[x.b0, x.b1]⟩ u5 false) :: _) := ⟨_, _, _, _, _, N12⟩
      obtain ⟨u1, u2, u3, u4, u5, N13⟩ := N13
      have hin : ∀ z ∈ front ++ (ha, listOf hs'.toArray n') :: (tl' ++ (tl ++ R₀)), z.1 < dx := fun z hz => l1 z (.tail _ (.tail _ hz))
      refine hret J4 (.ref xo) hs' n' ((xo, instObj 51 dx) :: (dx, rangeDict w.params u1 u2 u3 u4 y1 y2 ⟨#[x.b0, x.b1]⟩ u5 false) :: tl') _ _ J1 ⟨xo, dx, u1, u2, u3, u4, u5, y1, y2, rfl, .head _, .tail _ (.head _), J2.mono fun q hq => .tail _ (.tail _ hq)⟩ ?_ F12 (news_sub N13 ?_)
      · intro q hq
        have h9 := hin (ha, listOf hs'.toArray n') (List.mem_append_right _ (.head _))
        simp only [List.mem_cons] at hq
        rcases hq with rfl | rfl | hq
        · exact ⟨Nat.lt_trans h9 l2, fun z hz => Nat.lt_trans (hin z (List.mem_append_left _ hz)) l2⟩
        · exact ⟨h9, fun z hz => hin z (List.mem_append_left _ hz)⟩
        · exact J3 q hq
      · intro q hq
        simp only [List.mem_append, List.mem_cons, List.cons_append] at hq ⊢
        rcases hq with h | h | h | h | h | h
        · exact .inr (.inr (.inr (.inr (.inl h))))
        · exact .inr (.inr (.inr (.inr (.inr (.inl h)))))
        · exact .inl h
        · exact .inr (.inl h)
        · exact .inr (.inr (.inr (.inr (.inr (.inr (.inl h))))))
        · exact .inr (.inr (.inr (.inr (.inr (.inr (.inr h))))))
    · rintro ax G nx h6 tk' ⟨hs', n', tl', rfl, b1, b2, b3⟩ FG6 R6 U6
      k_unfold
      refine leaveX_any B' FG6 R6 U6 rfl fun h10 R10 U10 => ?_
      exact hexc b3 ax g' hs' n' tl' _ _ b1 b2 FG' (raised_fewer R10 fun q hq => .tail _ hq) U10

/-- range_in keeps the contract of a range's reader -/
theorem range_rd {w : World} {p : Program} {loose : List Str} {mean : ExcName → Option Value} {mg mb : Str → Option Value}
    {g cE c' : Addr} {oE oc : Obj} {vc : Array Value} {doc pm ct : Value} {tc : Tok} {ha rd : Addr} {stop : Int} {R₀ : Led}
    (hg : (g, gObj [(Str.ofString "elem_func", cE)] doc pm c' ct) ∈ R₀) (hc : (c', oc) ∈ R₀) (hE : (cE, oE) ∈ R₀)
    (hoc : oc.data = .fields vc) (hvc : vc[1]? = some (.str (Str.ofString "_range_in.<locals>.range_in") tc)) (hoE : oE.data = .cell (some (.ref rd)))
    (hrd : RdIn R₀ rd ha stop) (hne : ∀ p ∈ R₀, p.1 ≠ ha) :
    AdC w p loose mean mg mb 20 200 (.ref g) ha (GInv w.params ha R₀) (GBad ha stop R₀) (goG stop) := by
  intro dp un gd cn cs a ccd cl outer A₀ base h₀ L m s Q E front R xs vs x t AT hI hok hlen hoff hdp hun hret hexc
  obtain ⟨tl, hs, n, rfl, hh, hR, htl⟩ := hI
  have e1 : endsOf (xs ++ [x]) = endsOf xs ++ heardOf x.sides := by rw [endsOf_append, endsOf_one]
  have hgo : goG stop xs x = decide (¬ ((((endsOf xs).length : Nat) : Int) < stop ∧ stop ≤ (((endsOf xs).length + (heardOf x.sides).length : Nat) : Int))) := by
    unfold goG; rw [e1, List.length_append]
  refine g_c (es := endsOf xs) AT hg hc hE hoc hvc hoE hrd hne htl (fun q hq => hoff q hq) hh (by have := endsOf_len xs; omega) hok hdp hun ?_ ?_
  · intro hn v hs' n' tl' h' tk' i1 i2 i3 F' N'
    refine hret (by rw [hgo]; exact decide_eq_true hn) v ((ha, listOf hs'.toArray n') :: ((tl' ++ tl) ++ R₀)) h' tk' ⟨tl' ++ tl, hs', n', rfl, by rw [e1]; exact i1, ?_, ?_⟩ F' (by rw [List.append_assoc]; exact N') ?_
    · exact (hR.mono fun q hq => List.mem_append_right _ hq).snoc (by rw [Nat.zero_add]; exact i2.mono fun q hq => List.mem_append_left _ hq)
    · intro q hq
      exact (List.mem_append.mp hq).elim (fun h => (i3 q h).1) (htl q)
    · intro q hq
      simp only [List.mem_cons, List.mem_append] at hq
      rcases hq with rfl | (hq | hq) | hq
      · exact .inl ⟨_, .head _, rfl⟩
      · exact .inr (i3 q hq).2
      · exact .inl ⟨q, .tail _ (List.mem_append_left _ hq), rfl⟩
      · exact .inl ⟨q, .tail _ (List.mem_append_right _ hq), rfl⟩
  · intro hn e G hs' n' tl' h' tk' i1 i2 FG' RS U'
    refine hexc (by rw [hgo]; exact decide_eq_false (fun q => q hn)) e G ((ha, listOf hs'.toArray n') :: ((tl' ++ tl) ++ R₀)) h' tk' ⟨tl' ++ tl, hs', n', rfl, by rw [e1]; exact i1, ?_⟩ FG' (by rw [List.append_assoc]; exact RS) U'
    intro q hq
    exact (List.mem_append.mp hq).elim (i2 q) (htl q)

set_option maxHeartbeats 1000000 in
theorem g_bad {w : World} {p : Program} {loose : List Str} {mean : ExcName → Option Value} {mg mb : Str → Option Value}
    {dp un : Nat} {gd : Option (List Code)} {cn : Str} {cs : Scope} {a : Addr} {ccd : Value} {cl : List (Str × Addr)} {outer : List Env} {A₀ : Around} {base h₀ : Heap} {L : Addr} {m : Str → Option Value} {s : Shared} {Q E : Value → Shared → Prop}
    {g cE c' : Addr} {oE oc : Obj} {vc : Array Value} {doc pm ct : Value} {tc : Tok} {ha rd : Addr} {x mid : Str} {ps : List Str} {td : Tok} {front R₀ : Led} {hs : List Value} {n : Nat}
    (AT : At w p loose mean mg mb cs outer A₀ base h₀ L m s.heap (front ++ (ha, listOf hs.toArray n) :: R₀))
    (hg : (g, gObj [(Str.ofString "elem_func", cE)] doc pm c' ct) ∈ R₀) (hc : (c', oc) ∈ R₀) (hE : (cE, oE) ∈ R₀)
    (hoc : oc.data = .fields vc) (hvc : vc[1]? = some (.str (Str.ofString "_range_in.<locals>.range_in") tc)) (hoE : oE.data = .cell (some (.ref rd)))
    (hrd : RdIn R₀ rd ha 0) (hne : ∀ p ∈ R₀, p.1 ≠ ha) (hoff : ∀ q ∈ front, q.1 ≠ ha) (hes : hs.length ≤ 20)
    (hx : (x == Str.ofString "empty") = false) (hxl : x.length ≤ 100) (hsli : PySem.Txt.slice x (some 1) (some (-1)) = mid) (hml : mid.length ≤ 100) (hsp : Txt.split mid (Str.ofString ",") = ps) (hps : ps.length = 1 ∨ ps.length = 3)
    (hdp : dp + 20 < recursionLimit) (hun : un + 200 < cLine)
    (hexc : ∀ e G (hs' : List Value) (n' : Nat) (tl' : Led) h' tk', hs'.length ≤ hs.length + 3 → (∀ p ∈ tl', @LT.lt Nat _ ha p.1 ∧ ∀ z ∈ front, z.1 < p.1) →
      Fr h₀ L G m → RaisedSN base G (envX cn cs L a ccd cl :: outer) e (.type "ValueError") (front ++ (ha, listOf hs'.toArray n') :: (tl' ++ R₀)) h' → G.UpToSlots h' → E (.ref e) { s with heap := h', toks := tk' }) :
    wpAny (model PySem.Challenge.rw_ej5023_01.row.prog w) (ktrTop dp un gd cn cs L a ccd cl outer) (call (.ref g) [.str x td]) Q E s := by
  obtain ⟨B, F, X, T, hk, N, C1, C2, C3⟩ := AT
  w_top off; revert X; k_fill; intro X
  refine wpAny_call ?_
  have up : ∀ q ∈ R₀, q ∈ front ++ (ha, listOf hs.toArray n) :: R₀ := fun q hq => List.mem_append_right _ (.tail _ hq)
  have hg' := up _ hg
  have hc' := up _ hc
  have hE' := up _ hE
  (refine' code_nest ?k1 ?k2 ?k3 ?k4 ?k5 ?kA ?kF ?kK ?k6 ?k7 ?k8 ?k9 ?kB ?_ ?c2 ?c3 ?c4 ?c5; (case kA => exact rfl); (case kF => exact rfl); (case kK => exact hk); (case k1 => k_asm); (case k2 => k_asm); (case k3 => k_asm); (case k4 => k_asm); (case k5 => k_asm); (case k6 => exact hg'); (case k7 => exact codeRec_news (by k_asm) hc' (by assumption) (by assumption)); (case k8 => ktr_room); (case k9 => exact BindsTo.of_eq rfl); (case c5 => decide); (case kB => exact locs rfl); (case c2 => exact rfl); (case c3 => exact rfl); (case c4 => exact rfl); k_whole; intro g' L' h' FG' F' N' B' X' T'; (try dsimp only); (try k_fold))
  have D1 := C1.keeps FG'.keep
  have D2 := C2.keeps FG'.keep
  have D3 := C3.keeps FG'.keep
  clear C1 C2 C3
  repeat' ((fail_if_success (with_reducible show wpAny _ _ (eval (Expr.ListComp _ _ _ _) _) _ _ _)); (fail_if_success (with_reducible show wpAny _ _ (call (Value.ref 51) _ _) _ _ _)); first | (k_unfold; (try dsimp only)) | (k_end; wrow_close) | walk1 | (dsimp only; walk1) | (leave1; walk_say "STEP leave1"; try dsimp only) | fail "no step")
  · (rename Fr g' _ _ _ => F1)
    refine comp_x (base := base) (h₀ := g') (L := L') (outer := envX cn cs L a ccd cl :: outer) F1 rfl rfl rfl rfl (by decide) rfl (by decide) rfl ?_
    repeat' ((fail_if_success (with_reducible show wpAny _ _ (subscriptTail _ _ _ _) _ _ _)); first | (k_unfold; (try dsimp only)) | (k_end; wrow_close) | walk1 | (dsimp only; walk1) | (leave1; walk_say "STEP leave1"; try dsimp only) | fail "no step")
    have hsz9 : x.length ≤ sizeLine := by rw [PySem.sizeLine_eq]; omega
    refine slice_strN_ss (hsz := hsz9) (s := ⟨_, _, _, _, _⟩) F1 N' ?_
    intro h2 t2 k2 F2 N2
    rw [hsli]
    repeat' ((fail_if_success (with_reducible show wpAny _ _ (call (Value.builtin _) _) _ _ _)); first | (k_unfold; (try dsimp only)) | (k_end; wrow_close) | walk1 | (dsimp only; walk1) | (leave1; walk_say "STEP leave1"; try dsimp only) | fail "no step")
    have hsz8 : mid.length + 2 ≤ sizeLine := by rw [PySem.sizeLine_eq]; omega
    refine splitN1 (hsz := hsz8) F2 N2 (by rfl) ?_
    intro l3 h3 k3 e3 F3 N3
    rw [hsp] at e3
    have hll : l3.length = ps.length := by rw [← e3, List.length_map]
    have hvl : (strValues l3).length = l3.length := by simp [strValues]
    have hsl : ∀ z ∈ front ++ (ha, listOf hs.toArray n) :: R₀, z.1 < h2.objs.size := fun z hz => Heap.lt_size (N2 z hz).1
    generalize hsq : h2.objs.size = sl at *
    refine ⟨sl, (strValues l3).toArray, 0, _,
      fun i ys nx => ∃ (hs' : List Value) (n' : Nat) (tl' : Led), nx = (sl, listOf (strValues l3).toArray 0) :: (front ++ (ha, listOf hs'.toArray n') :: (tl' ++ R₀)) ∧ hs'.length ≤ hs.length + i ∧ ys.length = i ∧ (∀ p ∈ tl', @LT.lt Nat _ ha p.1 ∧ ∀ z ∈ front, z.1 < p.1),
      fun nx => False, rfl, F3, N3, ?_, by rw [List.size_toArray, hvl, hll, PySem.sizeLine_eq]; omega, ?_, ?_, ?_, ?_⟩
    · rintro i ys nx ⟨hs', n', tl', rfl, _⟩
      exact List.mem_cons_self
    · exact ⟨hs, n, [], rfl, by omega, rfl, fun p hp => (nomatch hp)⟩
    · rintro i v ys nx I oI C oC D m₂ h tk hi ⟨hs', n', tl', rfl, J1, J2, J3⟩ hoC hv F4 N4 off4 ⟨ne1, ne2, ne3⟩
      obtain ⟨e, te, rfl⟩ : ∃ e te, v = .str e te := by
        have hi' : (strValues l3)[i]? = some v := by rw [← hi]; simp
        have hm := List.mem_of_getElem? hi'
        simp only [strValues, List.mem_map] at hm
        obtain ⟨q, _, rfl⟩ := hm
        exact ⟨_, _, rfl⟩
      have hi2 : i < 4 := by
        have h5 : i < (strValues l3).toArray.size := (Array.getElem?_eq_some_iff.mp hi).1
        rw [List.size_toArray, hvl, hll] at h5
        omega
      have off4m := off4.mem
      have upR : ∀ q ∈ R₀, q ∈ ((I, oI) :: (C, oC) :: (D, LCg.lst ys) :: (sl, listOf (strValues l3).toArray 0) :: front) ++ (tl' ++ R₀) := fun q hq => List.mem_append_right _ (List.mem_append_right _ hq)
      have hI := (off4m (ha, listOf hs'.toArray n') (.tail _ (List.mem_append_right _ (.head _))))
      have hsl9 : @LT.lt Nat _ ha sl := hsl (ha, listOf hs.toArray n) (List.mem_append_right _ (.head _))
      have ownOff : ∀ q ∈ ((I, oI) :: (C, oC) :: (D, LCg.lst ys) :: (sl, listOf (strValues l3).toArray 0) :: front) ++ (tl' ++ R₀), q.1 ≠ ha := by
        intro q hq
        simp only [List.mem_append, List.mem_cons, List.cons_append] at hq
        rcases hq with rfl | rfl | rfl | rfl | hq | hq | hq
        · exact Ne.symm hI.1
        · exact Ne.symm hI.2.1
        · exact Ne.symm hI.2.2
        · exact (Nat.ne_of_lt hsl9).symm
        · exact hoff q hq
        · exact Nat.ne_of_gt (J3 q hq).1
        · exact hne q hq
      refine g_turn (dp := dp + 1) (un := un + 3) (outer := envX cn cs L a ccd cl :: outer) (A₀ := ktrTop dp un gd cn cs L a ccd cl outer) (own := (I, oI) :: (C, oC) :: (D, LCg.lst ys) :: (sl, listOf (strValues l3).toArray 0) :: front) (rest := tl' ++ R₀)
        (ha := ha) (rd := rd) (hs := hs') (n := n') (stop := 0) (e := e) (te := te) (oE := oE) (oC := oC) (C := C) (m₂ := m₂)
        ⟨B', F4, X', T', rfl, N4, D1, D2, D3⟩ (hrd.mono upR) ownOff (by omega) (List.mem_append_right _ (.tail _ (List.mem_append_right _ hE))) hoE (.tail _ (.head _)) hoC hv (by omega) (by omega) ?_ ?_ ?_
      · intro h9 tk'
        exact ⟨h, tk', _, rfl, F4, N4, off4, hs', n', tl', rfl, by omega, by rw [List.length_append, J2]; rfl, J3⟩
      · intro h9 hst r t h6 tk' F6 hr1 hr2 N6
        refine ⟨h6, tk', (sl, listOf (strValues l3).toArray 0) :: (front ++ (ha, listOf (hs' ++ [Value.str e te]).toArray (n' + 1)) :: (((r, { cls := .type "tuple", data := .seq #[Value.int ((hs'.length : Int) + 1) t, Value.str e te] }) :: tl') ++ R₀)), rfl, F6, ?_, ?_, hs' ++ [Value.str e te], n' + 1, _, rfl, by rw [List.length_append]; simp only [List.length_cons, List.length_nil]; omega, by rw [List.length_append, J2]; rfl, ?_⟩
        · refine news_sub N6 fun q hq => ?_
          simp only [List.mem_append, List.mem_cons, List.cons_append] at hq ⊢
          rcases hq with h | h | h | h | h | h | h | h | h
          · exact .inr (.inl h)
          · exact .inr (.inr (.inl h))
          · exact .inr (.inr (.inr (.inl h)))
          · exact .inr (.inr (.inr (.inr (.inl h))))
          · exact .inr (.inr (.inr (.inr (.inr (.inl h)))))
          · exact .inr (.inr (.inr (.inr (.inr (.inr (.inl h))))))
          · exact .inl h
          · exact .inr (.inr (.inr (.inr (.inr (.inr (.inr (.inl h)))))))
          · exact .inr (.inr (.inr (.inr (.inr (.inr (.inr (.inr h)))))))
        · refine LCg.Off3.of fun q hq => ?_
          simp only [List.mem_append, List.mem_cons, List.cons_append] at hq
          rcases hq with rfl | hq | rfl | rfl | hq | hq
          · exact off4m _ (.head _)
          · exact off4m q (.tail _ (List.mem_append_left _ hq))
          · exact hI
          · exact ⟨(Nat.ne_of_lt (hr2 (I, oI) (.head _))).symm, (Nat.ne_of_lt (hr2 (C, oC) (.tail _ (.head _)))).symm, (Nat.ne_of_lt (hr2 (D, LCg.lst ys) (.tail _ (.tail _ (.head _))))).symm⟩
          · exact off4m q (.tail _ (List.mem_append_right _ (.tail _ (List.mem_append_left _ hq))))
          · exact off4m q (.tail _ (List.mem_append_right _ (.tail _ (List.mem_append_right _ hq))))
        · intro q hq
          rcases List.mem_cons.mp hq with rfl | hq
          · exact ⟨hr1, fun z hz => hr2 z (List.mem_append_left _ (.tail _ (.tail _ (.tail _ (.tail _ hz)))))⟩
          · exact J3 q hq
      · intro h9 hst
        omega
    · rintro D h4 k4 ys nx ⟨hs', n', tl', rfl, J1, J2, J3⟩ F4 N4 off4
      rw [List.size_toArray, hvl, hll] at J1 J2
      clear N N' N2 N3
      have hIL : h4.IsList D ys.toArray := ⟨_, (N4 _ (.head _)).1, rfl, _, rfl⟩
      have hnn : ys.toArray.size = 1 ∨ ys.toArray.size = 3 := by rw [List.size_toArray, J2]; exact hps
      refine unpack_bad (s := { s with heap := h4, toks := _ }) hIL rfl rfl rfl hnn fun h₁ h8 k8 e8 ext hx8 => ?_
      k_unfold
      refine leaveX_new B' hx8 (F4.extBut ext (Nat.le_refl _)) (N4.extBut ext (Nat.le_refl _)) rfl rfl fun h9 R9 U9 => ?_
      exact hexc e8 g' hs' n' tl' _ _ (by omega) J3 FG' (raised_fewer R9 fun q hq => .tail _ (.tail _ hq)) U9
    · rintro ax G nx h6 tk' hf
      exact hf.elim

theorem allLt_mem {r : Addr} : ∀ {l : Led}, AllLt r l → ∀ z ∈ l, z.1 < r
  | [], _, z, hz => nomatch hz
  | y :: l, h, z, hz => by
    rcases List.mem_cons.mp hz with rfl | hz
    · exact h.1
    · exact allLt_mem h.2 z hz
/-- what _multirange_in made for a reader q -/
def MultiIn (T : Led) (f q : Addr) : Prop :=
  ∃ (cA c' : Addr) (oA oc : Obj) (vc : Array Value) (doc pm ct : Value) (tc : Tok), (f, fObj [(Str.ofString "adapter", cA)] doc pm c' ct) ∈ T ∧ (c', oc) ∈ T ∧ (cA, oA) ∈ T ∧ oc.data = .fields vc ∧ vc[1]? = some (.str (Str.ofString "_multirange_in.<locals>.f") tc) ∧ oA.data = .cell (some (.ref q))
/-- what _range_in made for a reader rd -/
def RangeIn (T : Led) (g rd : Addr) : Prop :=
  ∃ (cE c' : Addr) (oE oc : Obj) (vc : Array Value) (doc pm ct : Value) (tc : Tok), (g, gObj [(Str.ofString "elem_func", cE)] doc pm c' ct) ∈ T ∧ (c', oc) ∈ T ∧ (cE, oE) ∈ T ∧ oc.data = .fields vc ∧ vc[1]? = some (.str (Str.ofString "_range_in.<locals>.range_in") tc) ∧ oE.data = .cell (some (.ref rd))
/-- a def's code is laid aside, or not yet -/
def TabSt (line col : Nat) (qual : Str) (o : Obj) (Z : Led) : Prop :=
  o = tabObj #[] ∨ ∃ (c' : Addr) (oc : Obj) (vc : Array Value) (tc : Tok), o = tabObj #[rawInt line, rawInt col, .ref c'] ∧ (c', oc) ∈ Z ∧ oc.data = .fields vc ∧ vc[1]? = some (.str qual tc)
theorem TabSt.mono {line col : Nat} {qual : Str} {o : Obj} {Z Z' : Led} (h : TabSt line col qual o Z) (hs : ∀ p ∈ Z, p ∈ Z') : TabSt line col qual o Z' := by
  rcases h with h | ⟨c', oc, vc, tc, h1, h2, h3, h4⟩
  · exact .inl h
  · exact .inr ⟨c', oc, vc, tc, h1, hs _ h2, h3, h4⟩
abbrev rTab := TabSt 73 4 (Str.ofString "_law_listener.<locals>._law_reader")
abbrev fTab := TabSt 39 4 (Str.ofString "_multirange_in.<locals>.f")
abbrev gTab := TabSt 30 4 (Str.ofString "_range_in.<locals>.range_in")
set_option maxHeartbeats 1000000 in
theorem mk_listener {w : World} {p : Program} {loose : List Str} {mean : ExcName → Option Value} {mg mb : Str → Option Value}
    {dp un : Nat} {gd : Option (List Code)} {cn : Str} {cs : Scope} {a : Addr} {ccd : Value} {cl : List (Str × Addr)} {outer : List Env} {A₀ : Around} {base h₀ : Heap} {L : Addr} {m : Str → Option Value} {s : Shared} {Q E : Value → Shared → Prop}
    {ha : Addr} {stop : Int} {ts : Tok} {o : Obj} {Y Z : Led}
    (AT : At w p loose mean mg mb cs outer A₀ base h₀ L m s.heap ((87, o) :: (Y ++ Z))) (ht : rTab o Z) (hne : ∀ p ∈ Y ++ Z, p.1 ≠ 87)
    (hdp : dp + 2 < recursionLimit) (hun : un + 16 < cLine)
    (hret : ∀ f U o' h' tk', RdIn (U ++ Z) f ha stop → rTab o' (U ++ Z) → (∀ q ∈ U, 87 < q.1 ∧ ∀ z ∈ Y ++ Z, z.1 < q.1) → Fr h₀ L h' m → News h₀ L h' ((87, o') :: (U ++ (Y ++ Z))) → Q (.ref f) { s with heap := h', toks := tk' }) :
    wpAny (model PySem.Challenge.rw_ej5023_01.row.prog w) (ktrTop dp un gd cn cs L a ccd cl outer) (call (.ref 92) [.ref ha, .int stop ts]) Q E s := by
  obtain ⟨B, F, X, T, hk, N, C1, C2, C3⟩ := AT
  w_top off; revert X; k_fill; intro X
  refine wpAny_call ?_
  rcases ht with rfl | ⟨c', oc, vc, tc, rfl, hc, hoc, hvc⟩
  · (refine' code_defC ?k1 ?k2 ?k3 ?k4 ?k5 ?kA ?kF ?kK ?k6 ?k7 ?k8 ?k9 ?kB ?kD ?_ ?c2 ?c3 ?c4; (case kA => exact rfl); (case kF => exact rfl); (case kK => exact hk); (case k1 => k_asm); (case k2 => k_asm); (case k3 => k_asm); (case k4 => k_asm); (case k5 => k_asm); (case k6 => k_is); (case k7 => k_is); (case k8 => ktr_room); (case k9 => exact BindsTo.of_eq rfl); (case kB => exact rfl); (case kD => decide +kernel); (case c2 => exact rfl); (case c3 => exact rfl); (case c4 => exact rfl); k_whole; intro g' L' h' tk' cells' FG' F' N' Y' B' X' T' l1; k_cells Y'; (try simp only [List.cons_append, List.nil_append] at N'); (try dsimp only); (try k_fold))
    have D1 := C1.keeps FG'.keep
    have D2 := C2.keeps FG'.keep
    have D3 := C3.keeps FG'.keep
    clear C1 C2 C3
    have hT : ∀ p ∈ Y ++ Z, p.1 ≠ 87 := hne
    have hL : @LT.lt Nat _ 87 L' := l1 _ (.head _)
    skip
    k_steps
    (rename Fr h₀ _ _ _ => F9)
    (rename News h₀ _ _ (_ :: _ :: _) => N9)
    have N10 : ∃ c' oc vs t doc pm ct x0 x1, News h₀ L _ ((_, rObj [(Str.ofString "stop", (L' + 1 + 1)), (Str.ofString "heard", (L' + 1))] doc pm c' ct) :: (c', oc) :: ((L' + 1 + 1), x1) :: ((L' + 1), x0) :: (87, tabObj #[rawInt _, rawInt _, .ref c']) :: (Y ++ Z)) ∧ oc.data = .fields vs ∧ vs[1]? = some (.str (Str.ofString "_law_listener.<locals>._law_reader") t) ∧ ((L' + 1 + 1) < c' ∧ (L' + 1) < c' ∧ 87 < c' ∧ AllLt c' (Y ++ Z)) ∧ @LT.lt Nat _ c' _ ∧ x0.data = .cell (some (Value.ref ha)) ∧ x1.data = .cell (some (Value.int stop ts)) := ⟨_, _, _, _, _, _, _, _, _, N9, by assumption, by assumption, by assumption, by assumption, by assumption, by assumption⟩
    obtain ⟨c1, oc1, vs1, t1, doc, pm, ct, x0, x1, N10, hoc, hvc, lc, lf1, CDn0, CDn1⟩ := N10
    refine hret _ [(_, rObj [(Str.ofString "stop", (L' + 1 + 1)), (Str.ofString "heard", (L' + 1))] doc pm c1 ct), (c1, oc1), ((L' + 1 + 1), x1), ((L' + 1), x0)] _ _ _ ⟨(L' + 1), (L' + 1 + 1), c1, _, _, oc1, vs1, _, _, _, t1, ts, .head _, .tail _ (.head _), .tail _ (.tail _ (.tail _ (.head _))), .tail _ (.tail _ (.head _)), hoc, hvc, CDn0, CDn1⟩ (.inr ⟨c1, oc1, vs1, t1, rfl, .tail _ (.head _), hoc, hvc⟩) ?_ F9 (news_sub N10 ?_)
    · intro q hq
      simp only [List.mem_cons, List.not_mem_nil, or_false] at hq
      rcases hq with rfl | rfl | rfl | rfl
      · exact ⟨Nat.lt_trans lc.2.2.1 lf1, fun z hz => Nat.lt_trans (allLt_mem lc.2.2.2 z hz) lf1⟩
      · exact ⟨lc.2.2.1, allLt_mem lc.2.2.2⟩
      · exact ⟨Nat.lt_succ_of_lt (Nat.lt_succ_of_lt (l1 _ (.head _))), fun z hz => Nat.lt_succ_of_lt (Nat.lt_succ_of_lt (l1 z (.tail _ hz)))⟩
      · exact ⟨Nat.lt_succ_of_lt (l1 _ (.head _)), fun z hz => Nat.lt_succ_of_lt (l1 z (.tail _ hz))⟩
    · intro q hq
      simp only [List.mem_cons, List.cons_append, List.nil_append] at hq ⊢
      rcases hq with h | h | h | h | h | h
      · exact (.inr (.inr (.inr (.inr (.inl h)))))
      · exact (.inl h)
      · exact (.inr (.inl h))
      · exact (.inr (.inr (.inl h)))
      · exact (.inr (.inr (.inr (.inl h))))
      · exact (.inr (.inr (.inr (.inr (.inr h)))))
  · (refine' code_defC ?k1 ?k2 ?k3 ?k4 ?k5 ?kA ?kF ?kK ?k6 ?k7 ?k8 ?k9 ?kB ?kD ?_ ?c2 ?c3 ?c4; (case kA => exact rfl); (case kF => exact rfl); (case kK => exact hk); (case k1 => k_asm); (case k2 => k_asm); (case k3 => k_asm); (case k4 => k_asm); (case k5 => k_asm); (case k6 => k_is); (case k7 => k_is); (case k8 => ktr_room); (case k9 => exact BindsTo.of_eq rfl); (case kB => exact rfl); (case kD => decide +kernel); (case c2 => exact rfl); (case c3 => exact rfl); (case c4 => exact rfl); k_whole; intro g' L' h' tk' cells' FG' F' N' Y' B' X' T' l1; k_cells Y'; (try simp only [List.cons_append, List.nil_append] at N'); (try dsimp only); (try k_fold))
    have D1 := C1.keeps FG'.keep
    have D2 := C2.keeps FG'.keep
    have D3 := C3.keeps FG'.keep
    clear C1 C2 C3
    have hT : ∀ p ∈ Y ++ Z, p.1 ≠ 87 := hne
    have hL : @LT.lt Nat _ 87 L' := l1 _ (.head _)
    skip
    k_steps
    (rename Fr h₀ _ _ _ => F9)
    (rename News h₀ _ _ (_ :: _) => N9)
    (rename _ ∧ _ => lf)
    have lf2 := lf.2.2.1
    have lf3 := lf.2.2.2
    have N10 : ∃ doc pm ct x0 x1, News h₀ L _ ((_, rObj [(Str.ofString "stop", (L' + 1 + 1)), (Str.ofString "heard", (L' + 1))] doc pm c' ct) :: ((L' + 1 + 1), x1) :: ((L' + 1), x0) :: _ :: (Y ++ Z)) ∧ x0.data = .cell (some (Value.ref ha)) ∧ x1.data = .cell (some (Value.int stop ts)) := ⟨_, _, _, _, _, N9, by assumption, by assumption⟩
    obtain ⟨doc, pm, ct, x0, x1, N10, CDn0, CDn1⟩ := N10
    have hcU : ∀ U : Led, (c', oc) ∈ U ++ Z := fun U => List.mem_append_right _ hc
    refine hret _ [(_, rObj [(Str.ofString "stop", (L' + 1 + 1)), (Str.ofString "heard", (L' + 1))] doc pm c' ct), ((L' + 1 + 1), x1), ((L' + 1), x0)] _ _ _ ⟨(L' + 1), (L' + 1 + 1), c', _, _, oc, vc, _, _, _, tc, ts, .head _, hcU _, .tail _ (.tail _ (.head _)), .tail _ (.head _), hoc, hvc, CDn0, CDn1⟩ (.inr ⟨c', oc, vc, tc, rfl, hcU _, hoc, hvc⟩) ?_ F9 (news_sub N10 ?_)
    · intro q hq
      simp only [List.mem_cons, List.not_mem_nil, or_false] at hq
      rcases hq with rfl | rfl | rfl
      · exact ⟨lf2, allLt_mem lf3⟩
      · exact ⟨Nat.lt_succ_of_lt (Nat.lt_succ_of_lt (l1 _ (.head _))), fun z hz => Nat.lt_succ_of_lt (Nat.lt_succ_of_lt (l1 z (.tail _ hz)))⟩
      · exact ⟨Nat.lt_succ_of_lt (l1 _ (.head _)), fun z hz => Nat.lt_succ_of_lt (l1 z (.tail _ hz))⟩
    · intro q hq
      simp only [List.mem_cons, List.cons_append, List.nil_append] at hq ⊢
      rcases hq with h | h | h | h | h
      · exact (.inr (.inr (.inr (.inl h))))
      · exact (.inl h)
      · exact (.inr (.inl h))
      · exact (.inr (.inr (.inl h)))
      · exact (.inr (.inr (.inr (.inr h))))
set_option maxHeartbeats 1000000 in
theorem mk_multi {w : World} {p : Program} {loose : List Str} {mean : ExcName → Option Value} {mg mb : Str → Option Value}
    {dp un : Nat} {gd : Option (List Code)} {cn : Str} {cs : Scope} {a : Addr} {ccd : Value} {cl : List (Str × Addr)} {outer : List Env} {A₀ : Around} {base h₀ : Heap} {L : Addr} {m : Str → Option Value} {s : Shared} {Q E : Value → Shared → Prop}
    {q : Addr} {o : Obj} {Y Z : Led}
    (AT : At w p loose mean mg mb cs outer A₀ base h₀ L m s.heap ((64, o) :: (Y ++ Z))) (ht : fTab o Z) (hne : ∀ p ∈ Y ++ Z, p.1 ≠ 64)
    (hdp : dp + 2 < recursionLimit) (hun : un + 16 < cLine)
    (hret : ∀ f U o' h' tk', MultiIn (U ++ Z) f q → fTab o' (U ++ Z) → (∀ q ∈ U, 64 < q.1 ∧ ∀ z ∈ Y ++ Z, z.1 < q.1) → Fr h₀ L h' m → News h₀ L h' ((64, o') :: (U ++ (Y ++ Z))) → Q (.ref f) { s with heap := h', toks := tk' }) :
    wpAny (model PySem.Challenge.rw_ej5023_01.row.prog w) (ktrTop dp un gd cn cs L a ccd cl outer) (call (.ref 69) [.ref q]) Q E s := by
  obtain ⟨B, F, X, T, hk, N, C1, C2, C3⟩ := AT
  w_top off; revert X; k_fill; intro X
  refine wpAny_call ?_
  rcases ht with rfl | ⟨c', oc, vc, tc, rfl, hc, hoc, hvc⟩
  · (refine' code_defC ?k1 ?k2 ?k3 ?k4 ?k5 ?kA ?kF ?kK ?k6 ?k7 ?k8 ?k9 ?kB ?kD ?_ ?c2 ?c3 ?c4; (case kA => exact rfl); (case kF => exact rfl); (case kK => exact hk); (case k1 => k_asm); (case k2 => k_asm); (case k3 => k_asm); (case k4 => k_asm); (case k5 => k_asm); (case k6 => k_is); (case k7 => k_is); (case k8 => ktr_room); (case k9 => exact BindsTo.of_eq rfl); (case kB => exact rfl); (case kD => decide +kernel); (case c2 => exact rfl); (case c3 => exact rfl); (case c4 => exact rfl); k_whole; intro g' L' h' tk' cells' FG' F' N' Y' B' X' T' l1; k_cells Y'; (try simp only [List.cons_append, List.nil_append] at N'); (try dsimp only); (try k_fold))
    have D1 := C1.keeps FG'.keep
    have D2 := C2.keeps FG'.keep
    have D3 := C3.keeps FG'.keep
    clear C1 C2 C3
    have hT : ∀ p ∈ Y ++ Z, p.1 ≠ 64 := hne
    have hL : @LT.lt Nat _ 64 L' := l1 _ (.head _)
    skip
    k_steps
    (rename Fr h₀ _ _ _ => F9)
    (rename News h₀ _ _ (_ :: _ :: _) => N9)
    have N10 : ∃ c' oc vs t doc pm ct x0, News h₀ L _ ((_, fObj [(Str.ofString "adapter", (L' + 1))] doc pm c' ct) :: (c', oc) :: ((L' + 1), x0) :: (64, tabObj #[rawInt _, rawInt _, .ref c']) :: (Y ++ Z)) ∧ oc.data = .fields vs ∧ vs[1]? = some (.str (Str.ofString "_multirange_in.<locals>.f") t) ∧ ((L' + 1) < c' ∧ 64 < c' ∧ AllLt c' (Y ++ Z)) ∧ @LT.lt Nat _ c' _ ∧ x0.data = .cell (some (Value.ref q)) := ⟨_, _, _, _, _, _, _, _, N9, by assumption, by assumption, by assumption, by assumption, by assumption⟩
    obtain ⟨c1, oc1, vs1, t1, doc, pm, ct, x0, N10, hoc, hvc, lc, lf1, CDn0⟩ := N10
    refine hret _ [(_, fObj [(Str.ofString "adapter", (L' + 1))] doc pm c1 ct), (c1, oc1), ((L' + 1), x0)] _ _ _ ⟨(L' + 1), c1, _, oc1, vs1, _, _, _, t1, .head _, .tail _ (.head _), .tail _ (.tail _ (.head _)), hoc, hvc, CDn0⟩ (.inr ⟨c1, oc1, vs1, t1, rfl, .tail _ (.head _), hoc, hvc⟩) ?_ F9 (news_sub N10 ?_)
    · intro q hq
      simp only [List.mem_cons, List.not_mem_nil, or_false] at hq
      rcases hq with rfl | rfl | rfl
      · exact ⟨Nat.lt_trans lc.2.1 lf1, fun z hz => Nat.lt_trans (allLt_mem lc.2.2 z hz) lf1⟩
      · exact ⟨lc.2.1, allLt_mem lc.2.2⟩
      · exact ⟨Nat.lt_succ_of_lt (l1 _ (.head _)), fun z hz => Nat.lt_succ_of_lt (l1 z (.tail _ hz))⟩
    · intro q hq
      simp only [List.mem_cons, List.cons_append, List.nil_append] at hq ⊢
      rcases hq with h | h | h | h | h
      · exact (.inr (.inr (.inr (.inl h))))
      · exact (.inl h)
      · exact (.inr (.inl h))
      · exact (.inr (.inr (.inl h)))
      · exact (.inr (.inr (.inr (.inr h))))
  · (refine' code_defC ?k1 ?k2 ?k3 ?k4 ?k5 ?kA ?kF ?kK ?k6 ?k7 ?k8 ?k9 ?kB ?kD ?_ ?c2 ?c3 ?c4; (case kA => exact rfl); (case kF => exact rfl); (case kK => exact hk); (case k1 => k_asm); (case k2 => k_asm); (case k3 => k_asm); (case k4 => k_asm); (case k5 => k_asm); (case k6 => k_is); (case k7 => k_is); (case k8 => ktr_room); (case k9 => exact BindsTo.of_eq rfl); (case kB => exact rfl); (case kD => decide +kernel); (case c2 => exact rfl); (case c3 => exact rfl); (case c4 => exact rfl); k_whole; intro g' L' h' tk' cells' FG' F' N' Y' B' X' T' l1; k_cells Y'; (try simp only [List.cons_append, List.nil_append] at N'); (try dsimp only); (try k_fold))
    have D1 := C1.keeps FG'.keep
    have D2 := C2.keeps FG'.keep
    have D3 := C3.keeps FG'.keep
    clear C1 C2 C3
    have hT : ∀ p ∈ Y ++ Z, p.1 ≠ 64 := hne
    have hL : @LT.lt Nat _ 64 L' := l1 _ (.head _)
    skip
    k_steps
    (rename Fr h₀ _ _ _ => F9)
    (rename News h₀ _ _ (_ :: _) => N9)
    (rename _ ∧ _ => lf)
    have lf2 := lf.2.1
    have lf3 := lf.2.2
    have N10 : ∃ doc pm ct x0, News h₀ L _ ((_, fObj [(Str.ofString "adapter", (L' + 1))] doc pm c' ct) :: ((L' + 1), x0) :: _ :: (Y ++ Z)) ∧ x0.data = .cell (some (Value.ref q)) := ⟨_, _, _, _, N9, by assumption⟩
    obtain ⟨doc, pm, ct, x0, N10, CDn0⟩ := N10
    have hcU : ∀ U : Led, (c', oc) ∈ U ++ Z := fun U => List.mem_append_right _ hc
    refine hret _ [(_, fObj [(Str.ofString "adapter", (L' + 1))] doc pm c' ct), ((L' + 1), x0)] _ _ _ ⟨(L' + 1), c', _, oc, vc, _, _, _, tc, .head _, hcU _, .tail _ (.head _), hoc, hvc, CDn0⟩ (.inr ⟨c', oc, vc, tc, rfl, hcU _, hoc, hvc⟩) ?_ F9 (news_sub N10 ?_)
    · intro q hq
      simp only [List.mem_cons, List.not_mem_nil, or_false] at hq
      rcases hq with rfl | rfl
      · exact ⟨lf2, allLt_mem lf3⟩
      · exact ⟨Nat.lt_succ_of_lt (l1 _ (.head _)), fun z hz => Nat.lt_succ_of_lt (l1 z (.tail _ hz))⟩
    · intro q hq
      simp only [List.mem_cons, List.cons_append, List.nil_append] at hq ⊢
      rcases hq with h | h | h | h
      · exact (.inr (.inr (.inl h)))
      · exact (.inl h)
      · exact (.inr (.inl h))
      · exact (.inr (.inr (.inr h)))
set_option maxHeartbeats 1000000 in
theorem mk_range {w : World} {p : Program} {loose : List Str} {mean : ExcName → Option Value} {mg mb : Str → Option Value}
    {dp un : Nat} {gd : Option (List Code)} {cn : Str} {cs : Scope} {a : Addr} {ccd : Value} {cl : List (Str × Addr)} {outer : List Env} {A₀ : Around} {base h₀ : Heap} {L : Addr} {m : Str → Option Value} {s : Shared} {Q E : Value → Shared → Prop}
    {rd : Addr} {o : Obj} {Y Z : Led}
    (AT : At w p loose mean mg mb cs outer A₀ base h₀ L m s.heap ((57, o) :: (Y ++ Z))) (ht : gTab o Z) (hne : ∀ p ∈ Y ++ Z, p.1 ≠ 57)
    (hdp : dp + 2 < recursionLimit) (hun : un + 16 < cLine)
    (hret : ∀ f U o' h' tk', RangeIn (U ++ Z) f rd → gTab o' (U ++ Z) → (∀ q ∈ U, 57 < q.1 ∧ ∀ z ∈ Y ++ Z, z.1 < q.1) → Fr h₀ L h' m → News h₀ L h' ((57, o') :: (U ++ (Y ++ Z))) → Q (.ref f) { s with heap := h', toks := tk' }) :
    wpAny (model PySem.Challenge.rw_ej5023_01.row.prog w) (ktrTop dp un gd cn cs L a ccd cl outer) (call (.ref 62) [.ref rd]) Q E s := by
  obtain ⟨B, F, X, T, hk, N, C1, C2, C3⟩ := AT
  w_top off; revert X; k_fill; intro X
  refine wpAny_call ?_
  rcases ht with rfl | ⟨c', oc, vc, tc, rfl, hc, hoc, hvc⟩
  · (refine' code_defC ?k1 ?k2 ?k3 ?k4 ?k5 ?kA ?kF ?kK ?k6 ?k7 ?k8 ?k9 ?kB ?kD ?_ ?c2 ?c3 ?c4; (case kA => exact rfl); (case kF => exact rfl); (case kK => exact hk); (case k1 => k_asm); (case k2 => k_asm); (case k3 => k_asm); (case k4 => k_asm); (case k5 => k_asm); (case k6 => k_is); (case k7 => k_is); (case k8 => ktr_room); (case k9 => exact BindsTo.of_eq rfl); (case kB => exact rfl); (case kD => decide +kernel); (case c2 => exact rfl); (case c3 => exact rfl); (case c4 => exact rfl); k_whole; intro g' L' h' tk' cells' FG' F' N' Y' B' X' T' l1; k_cells Y'; (try simp only [List.cons_append, List.nil_append] at N'); (try dsimp only); (try k_fold))
    have D1 := C1.keeps FG'.keep
    have D2 := C2.keeps FG'.keep
    have D3 := C3.keeps FG'.keep
    clear C1 C2 C3
    have hT : ∀ p ∈ Y ++ Z, p.1 ≠ 57 := hne
    have hL : @LT.lt Nat _ 57 L' := l1 _ (.head _)
    skip
    k_steps
    (rename Fr h₀ _ _ _ => F9)
    (rename News h₀ _ _ (_ :: _ :: _) => N9)
    have N10 : ∃ c' oc vs t doc pm ct x0, News h₀ L _ ((_, gObj [(Str.ofString "elem_func", (L' + 1))] doc pm c' ct) :: (c', oc) :: ((L' + 1), x0) :: (57, tabObj #[rawInt _, rawInt _, .ref c']) :: (Y ++ Z)) ∧ oc.data = .fields vs ∧ vs[1]? = some (.str (Str.ofString "_range_in.<locals>.range_in") t) ∧ ((L' + 1) < c' ∧ 57 < c' ∧ AllLt c' (Y ++ Z)) ∧ @LT.lt Nat _ c' _ ∧ x0.data = .cell (some (Value.ref rd)) := ⟨_, _, _, _, _, _, _, _, N9, by assumption, by assumption, by assumption, by assumption, by assumption⟩
    obtain ⟨c1, oc1, vs1, t1, doc, pm, ct, x0, N10, hoc, hvc, lc, lf1, CDn0⟩ := N10
    refine hret _ [(_, gObj [(Str.ofString "elem_func", (L' + 1))] doc pm c1 ct), (c1, oc1), ((L' + 1), x0)] _ _ _ ⟨(L' + 1), c1, _, oc1, vs1, _, _, _, t1, .head _, .tail _ (.head _), .tail _ (.tail _ (.head _)), hoc, hvc, CDn0⟩ (.inr ⟨c1, oc1, vs1, t1, rfl, .tail _ (.head _), hoc, hvc⟩) ?_ F9 (news_sub N10 ?_)
    · intro q hq
      simp only [List.mem_cons, List.not_mem_nil, or_false] at hq
      rcases hq with rfl | rfl | rfl
      · exact ⟨Nat.lt_trans lc.2.1 lf1, fun z hz => Nat.lt_trans (allLt_mem lc.2.2 z hz) lf1⟩
      · exact ⟨lc.2.1, allLt_mem lc.2.2⟩
      · exact ⟨Nat.lt_succ_of_lt (l1 _ (.head _)), fun z hz => Nat.lt_succ_of_lt (l1 z (.tail _ hz))⟩
    · intro q hq
      simp only [List.mem_cons, List.cons_append, List.nil_append] at hq ⊢
      rcases hq with h | h | h | h | h
      · exact (.inr (.inr (.inr (.inl h))))
      · exact (.inl h)
      · exact (.inr (.inl h))
      · exact (.inr (.inr (.inl h)))
      · exact (.inr (.inr (.inr (.inr h))))
  · (refine' code_defC ?k1 ?k2 ?k3 ?k4 ?k5 ?kA ?kF ?kK ?k6 ?k7 ?k8 ?k9 ?kB ?kD ?_ ?c2 ?c3 ?c4; (case kA => exact rfl); (case kF => exact rfl); (case kK => exact hk); (case k1 => k_asm); (case k2 => k_asm); (case k3 => k_asm); (case k4 => k_asm); (case k5 => k_asm); (case k6 => k_is); (case k7 => k_is); (case k8 => ktr_room); (case k9 => exact BindsTo.of_eq rfl); (case kB => exact rfl); (case kD => decide +kernel); (case c2 => exact rfl); (case c3 => exact rfl); (case c4 => exact rfl); k_whole; intro g' L' h' tk' cells' FG' F' N' Y' B' X' T' l1; k_cells Y'; (try simp only [List.cons_append, List.nil_append] at N'); (try dsimp only); (try k_fold))
    have D1 := C1.keeps FG'.keep
    have D2 := C2.keeps FG'.keep
    have D3 := C3.keeps FG'.keep
    clear C1 C2 C3
    have hT : ∀ p ∈ Y ++ Z, p.1 ≠ 57 := hne
    have hL : @LT.lt Nat _ 57 L' := l1 _ (.head _)
    skip
    k_steps
    (rename Fr h₀ _ _ _ => F9)
    (rename News h₀ _ _ (_ :: _) => N9)
    (rename _ ∧ _ => lf)
    have lf2 := lf.2.1
    have lf3 := lf.2.2
    have N10 : ∃ doc pm ct x0, News h₀ L _ ((_, gObj [(Str.ofString "elem_func", (L' + 1))] doc pm c' ct) :: ((L' + 1), x0) :: _ :: (Y ++ Z)) ∧ x0.data = .cell (some (Value.ref rd)) := ⟨_, _, _, _, N9, by assumption⟩
    obtain ⟨doc, pm, ct, x0, N10, CDn0⟩ := N10
    have hcU : ∀ U : Led, (c', oc) ∈ U ++ Z := fun U => List.mem_append_right _ hc
    refine hret _ [(_, gObj [(Str.ofString "elem_func", (L' + 1))] doc pm c' ct), ((L' + 1), x0)] _ _ _ ⟨(L' + 1), c', _, oc, vc, _, _, _, tc, .head _, hcU _, .tail _ (.head _), hoc, hvc, CDn0⟩ (.inr ⟨c', oc, vc, tc, rfl, hcU _, hoc, hvc⟩) ?_ F9 (news_sub N10 ?_)
    · intro q hq
      simp only [List.mem_cons, List.not_mem_nil, or_false] at hq
      rcases hq with rfl | rfl
      · exact ⟨lf2, allLt_mem lf3⟩
      · exact ⟨Nat.lt_succ_of_lt (l1 _ (.head _)), fun z hz => Nat.lt_succ_of_lt (l1 z (.tail _ hz))⟩
    · intro q hq
      simp only [List.mem_cons, List.cons_append, List.nil_append] at hq ⊢
      rcases hq with h | h | h | h
      · exact (.inr (.inr (.inl h)))
      · exact (.inl h)
      · exact (.inr (.inl h))
      · exact (.inr (.inr (.inr h)))

set_option maxHeartbeats 1000000 in
theorem stopped_c {w : World} {p : Program} {loose : List Str} {mean : ExcName → Option Value} {mg mb : Str → Option Value}
    {dp un : Nat} {gd : Option (List Code)} {cn : Str} {cs : Scope} {a : Addr} {ccd : Value} {cl : List (Str × Addr)} {A₀ : Around} {base h₀ : Heap} {L : Addr} {m : Str → Option Value} {s : Shared} {Q E : Value → Shared → Prop}
    {q ha : Addr} {o1 o2 o3 : Obj} {n0 : Nat} {Z : Led} {data : Str} {td : Tok}
    (AT : At w p loose mean mg mb cs [] A₀ base h₀ L m s.heap ((64, o2) :: ([(ha, listOf #[] n0), (87, o1), (57, o3)] ++ Z)))
    (XB : (Mine.hd.heap_39 w.params).In base) (TB : Top p loose mean mg mb base)
    {qc : Value} {qd : Option Addr} {fd : FuncData} {qs : Array (Option Value)} {spans : List Span}
    {Inv : Led → List Span → List Value → Prop} {Bad : Led → List Span → Span → Prop} {go : List Span → Span → Bool} {d u : Nat}
    (ht : fTab o2 Z) (hne : ∀ p ∈ [(ha, listOf #[] n0), (87, o1), (57, o3)] ++ Z, p.1 ≠ 64) (hha : ∀ p ∈ (64, o2) :: (87, o1) :: (57, o3) :: Z, p.1 ≠ ha)
    (hq : ∀ R xs vs, Inv R xs vs → (q, (⟨qc, qd, .func fd, qs⟩ : Obj)) ∈ R) (hlen : ∀ R xs vs, Inv R xs vs → vs.length = xs.length)
    (hI : Inv ((ha, listOf #[] n0) :: Z) [] []) (hhd : ∀ R xs vs, Inv R xs vs → ∃ o, (ha, o) ∈ R) (AD : AdC w p loose mean mg mb d u (.ref q) ha Inv Bad go)
    (hscan : scan data.cps.toList = (false, [], spans.map Span.codes)) (hdl : data.length ≤ 900) (hsp : spans.length ≤ 7) (hok : ∀ x ∈ spans, spanOk x = true)
    (hdp : dp + d + 40 < recursionLimit) (hun : un + u + 400 < cLine)
    (hret : (∀ j (h : j < spans.length), go (spans.take j) spans[j] = true) → ∀ r vs R' U o2' n h' tk', Inv R' spans vs → fTab o2' (U ++ Z) → (∀ q ∈ U, 64 < q.1 ∧ ∀ z ∈ [(ha, listOf #[] n0), (87, o1), (57, o3)] ++ Z, z.1 < q.1) → Fr h₀ L h' m →
      News h₀ L h' ((r, listOf vs.toArray n) :: (((64, o2') :: (87, o1) :: (57, o3) :: (U ++ Z)) ++ R')) → (∀ x ∈ R', x.1 ≠ r) → (∀ x ∈ (64, o2') :: (87, o1) :: (57, o3) :: (U ++ Z), x.1 < r) → Q (.ref r) { s with heap := h', toks := tk' })
    (hexc : ∀ j (h : j < spans.length), go (spans.take j) spans[j] = false → (∀ i (hi : i < spans.length), i < j → go (spans.take i) spans[i] = true) → ∀ R' U o2' t h' tk', Bad R' (spans.take j) spans[j] → fTab o2' (U ++ Z) →
      (∀ q ∈ U, 64 < q.1 ∧ ∀ z ∈ [(ha, listOf #[] n0), (87, o1), (57, o3)] ++ Z, z.1 < q.1) → Fr h₀ L h' m → News h₀ L h' (((64, o2') :: (87, o1) :: (57, o3) :: (U ++ Z)) ++ R') → Q (.str (Str.ofString "refused") t) { s with heap := h', toks := tk' }) :
    wpAny (model PySem.Challenge.rw_ej5023_01.row.prog w) (ktrTop dp un gd cn cs L a ccd cl []) (call (.ref 99) [.ref q, .str data td]) Q E s := by
  obtain ⟨B, F, X, T, hk, N, C1, C2, C3⟩ := AT
  w_top off; revert X; k_fill; intro X
  have XB' : (Mine.hd.heap_39 w.params).In base := XB
  refine wpAny_call ?_
  (refine' code_defSX ?k1 ?k2 ?k3 ?k4 ?k5 ?kA ?kF ?kK ?k6 ?k7 ?k8 ?k9 ?kB ?_ ?c2 ?c3 ?c4 ?c5; (case kA => exact rfl); (case kF => exact rfl); (case kK => exact hk); (case k1 => k_asm); (case k2 => k_asm); (case k3 => k_asm); (case k4 => k_asm); (case k5 => k_asm); (case k6 => k_is); (case k7 => k_is); (case k8 => ktr_room); (case k9 => exact BindsTo.of_eq rfl); (case c5 => decide); (case kB => exact locs rfl); (case c2 => exact rfl); (case c3 => exact rfl); (case c4 => exact rfl); k_whole; intro g' L' h' FG' F' N' B' X' T' D'; (try dsimp only); (try k_fold))
  have D1 := C1.keeps FG'.keep
  have D2 := C2.keeps FG'.keep
  have D3 := C3.keeps FG'.keep
  clear C1 C2 C3
  repeat' ((fail_if_success (with_reducible show wpAny _ _ (call (Value.ref 69) _ _) _ _ _)); first | (k_unfold; (try dsimp only)) | (k_end; wrow_close) | walk1 | (dsimp only; walk1) | (leave1; walk_say "STEP leave1"; try dsimp only) | fail "no step")
  refine mk_multi (dp := dp + 1) (un := un + 3) (outer := [envX cn cs L a ccd cl]) (A₀ := ktrTop dp un gd cn cs L a ccd cl []) (Y := [(ha, listOf #[] n0), (87, o1), (57, o3)]) (Z := Z) (o := o2) ⟨B', F', X', T', rfl, N', D1, D2, D3⟩ ht hne (by omega) (by omega) ?_
  intro f U o2' h2 tk2 hM hT2 hfr F2 N2
  obtain ⟨cA, c', oA, oc, vc, doc, pm, ct, tc, m1, m2, m3, m4, m5, m6⟩ := hM
  have up : ∀ x ∈ U ++ Z, x ∈ (64, o2') :: (U ++ ([(ha, listOf #[] n0), (87, o1), (57, o3)] ++ Z)) := fun x hx => by
    rcases List.mem_append.mp hx with hx | hx
    · exact .tail _ (List.mem_append_left _ hx)
    · exact .tail _ (List.mem_append_right _ (List.mem_append_right _ hx))
  have hFf : FnAt f h2 := FnAt.of N2 (up _ m1)
  refine callWith_F hFf ?_
  repeat' ((fail_if_success (with_reducible show FnAt _ _ ∧ _)); first | (k_unfold; (try dsimp only)) | walk1 | (dsimp only; walk1) | fail "no step")
  refine ⟨hFf, ?_⟩
  refine f_c (dp := dp + 1) (un := un + 3) (outer := [envX cn cs L a ccd cl]) (A₀ := ktrTop dp un gd cn cs L a ccd cl []) (front := (64, o2') :: (87, o1) :: (57, o3) :: (U ++ Z)) (R := (ha, listOf #[] n0) :: Z) (s := { s with heap := h2, toks := _ })
    ⟨B', F2, X', T', rfl, news_sub N2 ?_, D1, D2, D3⟩ (.tail _ (.tail _ (.tail _ m1))) (.tail _ (.tail _ (.tail _ m2))) (.tail _ (.tail _ (.tail _ m3))) m4 m5 m6 hq hlen hI hhd ?_ AD hscan hdl hsp hok (by omega) (by omega) ?_ ?_
  · intro x hx
    simp only [List.mem_cons, List.mem_append, List.cons_append, List.nil_append] at hx ⊢
    rcases hx with h | h | h | (h | h) | h | h
    · exact .inl h
    · exact .inr (.inr (.inr (.inl h)))
    · exact .inr (.inr (.inr (.inr (.inl h))))
    · exact .inr (.inl h)
    · exact .inr (.inr (.inr (.inr (.inr h))))
    · exact .inr (.inr (.inl h))
    · exact .inr (.inr (.inr (.inr (.inr h))))
  · intro x hx
    simp only [List.mem_cons, List.mem_append] at hx
    rcases hx with rfl | rfl | rfl | h | h
    · exact hha (64, o2) (.head _)
    · exact hha _ (.tail _ (.head _))
    · exact hha _ (.tail _ (.tail _ (.head _)))
    · exact (Nat.ne_of_gt ((hfr x h).2 _ (.head _)))
    · exact hha x (.tail _ (.tail _ (.tail _ h)))
  · intro hgo r vs R' n h3 tk3 hI3 F3 N3 hf3 hr3 hr4
    k_steps
    exact hret hgo r vs R' U o2' n _ _ hI3 hT2 hfr (by assumption) (by assumption) hr3 fun x hx => hr4 x (List.mem_append_left _ hx)
  · intro j hj hg hgo e G R' h3 tk3 hB3 FG3 R3 U3
    dsimp only
    (refine' caught_SN0 (T' := "ValueError") R3 FG3 B' U3 XB TB D' KtsTurn.refl ?ex PyProof.Rows.Boot.«ValueError» ?hn PySem.F.isExc_ValueError PySem.F.notTuple_ValueError ?hs ?_; (case hs => kts_sub); (case ex => k_is); (case hn => decide))
    intro h4 g4 T4 F4 N4 K4 X4 P4 D4
    k_steps
    exact hexc j hj hg hgo R' U o2' _ _ _ hB3 hT2 hfr (by assumption) (by assumption)

set_option maxHeartbeats 1000000 in
theorem no_shape_c {w : World} {p : Program} {loose : List Str} {mean : ExcName → Option Value} {mg mb : Str → Option Value}
    {dp un : Nat} {gd : Option (List Code)} {cn : Str} {cs : Scope} {a : Addr} {ccd : Value} {cl : List (Str × Addr)} {A₀ : Around} {base h₀ : Heap} {L : Addr} {m : Str → Option Value} {s : Shared} {Q E : Value → Shared → Prop}
    {g ha rd : Addr} {x mid : Str} {ps : List Str} {td : Tok} {front R₀ : Led} {hs : List Value} {n : Nat}
    (AT : At w p loose mean mg mb cs [] A₀ base h₀ L m s.heap (front ++ (ha, listOf hs.toArray n) :: R₀))
    (XB : (Mine.hd.heap_39 w.params).In base) (TB : Top p loose mean mg mb base)
    (hG : RangeIn R₀ g rd) (hrd : RdIn R₀ rd ha 0) (hne : ∀ p ∈ R₀, p.1 ≠ ha) (hoff : ∀ q ∈ front, q.1 ≠ ha) (hes : hs.length ≤ 20)
    (hx : (x == Str.ofString "empty") = false) (hxl : x.length ≤ 100) (hsli : PySem.Txt.slice x (some 1) (some (-1)) = mid) (hml : mid.length ≤ 100) (hsp : Txt.split mid (Str.ofString ",") = ps) (hps : ps.length = 1 ∨ ps.length = 3)
    (hdp : dp + 40 < recursionLimit) (hun : un + 400 < cLine)
    (hret : ∀ (hs' : List Value) (n' : Nat) (tl' : Led) h' tk', hs'.length ≤ hs.length + 3 → (∀ p ∈ tl', @LT.lt Nat _ ha p.1) → Fr h₀ L h' m → News h₀ L h' (front ++ (ha, listOf hs'.toArray n') :: (tl' ++ R₀)) → Q (.bool true) { s with heap := h', toks := tk' }) :
    wpAny (model PySem.Challenge.rw_ej5023_01.row.prog w) (ktrTop dp un gd cn cs L a ccd cl []) (call (.ref 106) [.ref g, .str x td]) Q E s := by
  obtain ⟨B, F, X, T, hk, N, C1, C2, C3⟩ := AT
  obtain ⟨cE, c', oE, oc, vc, doc, pm, ct, tc, m1, m2, m3, m4, m5, m6⟩ := hG
  w_top off; revert X; k_fill; intro X
  refine wpAny_call ?_
  (refine' code_defSX ?k1 ?k2 ?k3 ?k4 ?k5 ?kA ?kF ?kK ?k6 ?k7 ?k8 ?k9 ?kB ?_ ?c2 ?c3 ?c4 ?c5; (case kA => exact rfl); (case kF => exact rfl); (case kK => exact hk); (case k1 => k_asm); (case k2 => k_asm); (case k3 => k_asm); (case k4 => k_asm); (case k5 => k_asm); (case k6 => k_is); (case k7 => k_is); (case k8 => ktr_room); (case k9 => exact BindsTo.of_eq rfl); (case c5 => decide); (case kB => exact locs rfl); (case c2 => exact rfl); (case c3 => exact rfl); (case c4 => exact rfl); k_whole; intro g' L' h' FG' F' N' B' X' T' D'; (try dsimp only); (try k_fold))
  have D1 := C1.keeps FG'.keep
  have D2 := C2.keeps FG'.keep
  have D3 := C3.keeps FG'.keep
  clear C1 C2 C3
  have up : ∀ z ∈ R₀, z ∈ front ++ (ha, listOf hs.toArray n) :: R₀ := fun z hz => List.mem_append_right _ (.tail _ hz)
  have hFg : FnAt g h' := FnAt.of N' (up _ m1)
  repeat' ((fail_if_success (with_reducible show wpAny _ _ (callWith _ (Value.ref g) _ _ _) _ _ _)); first | (k_unfold; (try dsimp only)) | (k_end; wrow_close) | walk1 | (dsimp only; walk1) | (leave1; walk_say "STEP leave1"; try dsimp only) | fail "no step")
  refine callWith_F hFg ?_
  repeat' ((fail_if_success (with_reducible show FnAt _ _ ∧ _)); first | (k_unfold; (try dsimp only)) | walk1 | (dsimp only; walk1) | fail "no step")
  refine ⟨hFg, ?_⟩
  refine g_bad (dp := dp + 1) (un := un + 3) (outer := [envX cn cs L a ccd cl]) (A₀ := ktrTop dp un gd cn cs L a ccd cl []) (front := front) (R₀ := R₀) (s := { s with heap := h', toks := _ })
    ⟨B', F', X', T', rfl, N', D1, D2, D3⟩ m1 m2 m3 m4 m5 m6 hrd hne hoff hes hx hxl hsli hml hsp hps (by omega) (by omega) ?_
  intro e G hs' n' tl' h3 tk3 b1 b2 FG3 R3 U3
  dsimp only
  (refine' caught_SN0 (T' := "ValueError") R3 FG3 B' U3 XB TB D' KtsTurn.refl ?ex PyProof.Rows.Boot.«ValueError» ?hn PySem.F.isExc_ValueError PySem.F.notTuple_ValueError ?hs ?_; (case hs => kts_sub); (case ex => k_is); (case hn => decide))
  intro h4 g4 T4 F4 N4 K4 X4 P4 D4
  k_steps
  exact hret hs' n' tl' _ _ b1 (fun q hq => (b2 q hq).1) (by assumption) (by assumption)

local macro_rules | `(tactic| k_handed) => `(tactic| assumption)

set_option maxHeartbeats 1000000 in
theorem g_empty {w : World} {p : Program} {loose : List Str} {mean : ExcName → Option Value} {mg mb : Str → Option Value}
    {dp un : Nat} {gd : Option (List Code)} {cn : Str} {cs : Scope} {a : Addr} {ccd : Value} {cl : List (Str × Addr)} {outer : List Env} {A₀ : Around} {base h₀ : Heap} {L : Addr} {m : Str → Option Value} {s : Shared} {Q E : Value → Shared → Prop}
    {g rd : Addr} {td : Tok} {Z : Led}
    (AT : At w p loose mean mg mb cs outer A₀ base h₀ L m s.heap Z) (hG : RangeIn Z g rd)
    (hdp : dp + 20 < recursionLimit) (hun : un + 200 < cLine)
    (hret : ∀ xo dx t1 t2 t3 t4 tb h' tk', (∀ z ∈ Z, z.1 < dx) → @LT.lt Nat _ dx xo → Fr h₀ L h' m → News h₀ L h' ((xo, instObj 51 dx) :: (dx, rangeDict w.params t1 t2 t3 t4 .none .none (Str.ofString "[)") tb true) :: Z) → Q (.ref xo) { s with heap := h', toks := tk' }) :
    wpAny (model PySem.Challenge.rw_ej5023_01.row.prog w) (ktrTop dp un gd cn cs L a ccd cl outer) (call (.ref g) [.str (Str.ofString "empty") td]) Q E s := by
  obtain ⟨B, F, X, T, hk, N, C1, C2, C3⟩ := AT
  obtain ⟨cE, c', oE, oc, vc, doc, pm, ct, tc, hg', hc', m3, m4, m5, m6⟩ := hG
  w_top off; revert X; k_fill; intro X
  refine wpAny_call ?_
  (refine' code_nest ?k1 ?k2 ?k3 ?k4 ?k5 ?kA ?kF ?kK ?k6 ?k7 ?k8 ?k9 ?kB ?_ ?c2 ?c3 ?c4 ?c5; (case kA => exact rfl); (case kF => exact rfl); (case kK => exact hk); (case k1 => k_asm); (case k2 => k_asm); (case k3 => k_asm); (case k4 => k_asm); (case k5 => k_asm); (case k6 => exact hg'); (case k7 => exact codeRec_news (by k_asm) hc' (by assumption) (by assumption)); (case k8 => ktr_room); (case k9 => exact BindsTo.of_eq rfl); (case c5 => decide); (case kB => exact locs rfl); (case c2 => exact rfl); (case c3 => exact rfl); (case c4 => exact rfl); k_whole; intro g' L' h' FG' F' N' B' X' T'; (try dsimp only); (try k_fold))
  have D1 := C1.keeps FG'.keep
  have D2 := C2.keeps FG'.keep
  have D3 := C3.keeps FG'.keep
  clear C1 C2 C3
  repeat' ((fail_if_success (with_reducible show wpAny _ _ (call (Value.ref 51) _ _) _ _ _)); first | (k_unfold; (try dsimp only)) | (k_end; wrow_close) | walk1 | (dsimp only; walk1) | (leave1; walk_say "STEP leave1"; try dsimp only) | fail "no step")
  (rename Fr g' _ _ _ => F8)
  (rename News g' _ _ _ => N8)
  refine' call_cls ?k1 ?k2 ?k3 ?k4 ?k5 ?k6 ?_; (case k1 => exact F8); (case k2 => exact X'); (case k3 => exact N8); (case k4 => k_is); (case k5 => k_is); (case k6 => k_is); k_whole; intro xo dx h8 F' N' l1 l2
  have n1 : ∀ p ∈ Z, p.1 ≠ dx := fun p hp => Nat.ne_of_lt (l1 p hp)
  have n2 : ∀ p ∈ Z, p.1 ≠ xo := fun p hp => Nat.ne_of_lt (Nat.lt_trans (l1 p hp) l2)
  k_lt2 l2
  (refine' code_def ?k1 ?k2 ?k3 ?k4 ?k5 ?kA ?kF ?kK ?k6 ?k7 ?k8 ?k9 ?kB ?_ ?c2 ?c3 ?c4 ?c5; (case kA => exact rfl); (case kF => exact rfl); (case kK => exact rfl); (case k1 => k_asm); (case k2 => k_asm); (case k3 => k_asm); (case k4 => k_asm); (case k5 => k_asm); (case k6 => k_is); (case k7 => k_is); (case k8 => (simp only [depth_under_kw]; ktr_room)); (case k9 => first | exact BindsTo.of_eq rfl | exact binds_K (by k_in) rfl (by k_is) rfl rfl rfl | fail "k_enter: no rule for these arguments"); (case c5 => decide); (case kB => exact locs rfl); (case c2 => exact rfl); (case c3 => exact rfl); (case c4 => exact rfl); k_whole; intro g8 L8 h9 FG8 F9 N9 B9 X9 T9; (try dsimp only); (try k_fold))
  k_steps
  (rename News h₀ L _ _ => N12)
  (rename Fr h₀ L _ _ => F12)
  have N13 : ∃ u1 u2 u3 u4 u5, News h₀ L _ ((xo, instObj 51 dx) :: (dx, rangeDict w.params u1 u2 u3 u4 .none .none (Str.ofString "[)") u5 true) :: Z) := ⟨_, _, _, _, _, N12⟩
  obtain ⟨u1, u2, u3, u4, u5, N13⟩ := N13
  exact hret xo dx u1 u2 u3 u4 u5 _ _ l1 l2 F12 N13
set_option maxHeartbeats 1000000 in
theorem plain_c {w : World} {p : Program} {loose : List Str} {mean : ExcName → Option Value} {mg mb : Str → Option Value}
    {dp un : Nat} {gd : Option (List Code)} {cn : Str} {cs : Scope} {a : Addr} {ccd : Value} {cl : List (Str × Addr)} {outer : List Env} {A₀ : Around} {base h₀ : Heap} {L : Addr} {m : Str → Option Value} {s : Shared} {Q E : Value → Shared → Prop}
    {xo dx : Addr} {t1 t2 t3 t4 tb : Tok} {y1 y2 : Value} {b : Str} {e : Bool} {Z : Led}
    (AT : At w p loose mean mg mb cs outer A₀ base h₀ L m s.heap Z) (hy1 : handedIn y1 = true) (hy2 : handedIn y2 = true) (hx : (xo, instObj 51 dx) ∈ Z) (hd : (dx, rangeDict w.params t1 t2 t3 t4 y1 y2 b tb e) ∈ Z)
    (hdp : dp + 20 < recursionLimit) (hun : un + 200 < cLine)
    (hret : ∀ r h' tk', (∀ z ∈ Z, z.1 < r) → Fr h₀ L h' m → News h₀ L h' ((r, { cls := .type "tuple", data := .seq #[y1, y2, .str b tb, .bool e] }) :: Z) → Q (.ref r) { s with heap := h', toks := tk' }) :
    wpAny (model PySem.Challenge.rw_ej5023_01.row.prog w) (ktrTop dp un gd cn cs L a ccd cl outer) (call (.ref 113) [.ref xo]) Q E s := by
  obtain ⟨B, F, X, T, hk, N0, C1, C2, C3⟩ := AT
  have N : News h₀ L s.heap ((xo, instObj 51 dx) :: (dx, rangeDict w.params t1 t2 t3 t4 y1 y2 b tb e) :: Z) := fun q hq => by
    rcases List.mem_cons.mp hq with rfl | hq
    · exact N0 _ hx
    · rcases List.mem_cons.mp hq with rfl | hq
      · exact N0 _ hd
      · exact N0 _ hq
  clear N0
  w_top off; revert X; k_fill; intro X
  refine wpAny_call ?_
  k_dflt cell_enter
  k_steps
  (rename News h₀ L _ _ => N12)
  (rename Fr h₀ L _ _ => F12)
  (rename _ ∧ _ => lf)
  exact hret _ _ _ (allLt_mem lf.2.2) F12 (news_sub N12 fun q hq => by
    rcases List.mem_cons.mp hq with rfl | hq
    · exact .head _
    · exact .tail _ (.tail _ (.tail _ hq)))

section
variable {M : Model} {A : Around} {E : Value → Shared → Prop} {s : Shared} {h₀ : Heap} {L a : Addr} {m : Str → Option Value} {name : Str} {scope : Scope} {cd : Value} {cl : List (Str × Addr)} {x : Str} {pos : Pos} {v : Value} {Q : Value → Shared → Prop}
theorem nameX_L (F : Fr h₀ L s.heap m) (hv : m x = some v) (h : Q v s) (hk : (envX name scope L a cd cl).scope.kind = .function) (hl : (envX name scope L a cd cl).kindOf x = some .local) (hd : (x == ("__debug__" : Str)) = false) :
    wpAny M A (eval (.Name x pos) (envX name scope L a cd cl)) Q E s := wpAny_Name (wpAny_loadName_local hk hl F.ns hv h) hd
end

/-- a for over a list of three-part tuples that stands in the ledger -/
theorem forT_list {prog : Program} {w : World} {A : Around} {E : Value → Shared → Prop} {s : Shared} {h₀ : Heap} {L : Addr} {m₀ : Str → Option Value} {name : Str} {scope : Scope} {a : Addr} {cd : Value} {cl : List (Str × Addr)} {x x₂ x₃ y0 : Str} {px px₂ px₃ tp py pos : Pos} {tk0 : Nat} {body : List Stmt} {Q : Flow → Shared → Prop}
    {ax : Addr} {its : Array Value} {k : Nat} {news : Led} (J : Nat → (Str → Option Value) → Led → Prop)
    (hh : A.handled = none) (hk : scope.kind = .function) (F : Fr h₀ L s.heap m₀) (N : News h₀ L s.heap news) (hy : m₀ y0 = some (.ref ax)) (hyk : (envX name scope L a cd cl).kindOf y0 = some .local) (hyd : (y0 == ("__debug__" : Str)) = false)
    (hx : (envX name scope L a cd cl).kindOf x = some .local) (hx₂ : (envX name scope L a cd cl).kindOf x₂ = some .local) (hx₃ : (envX name scope L a cd cl).kindOf x₃ = some .local)
    (hsrc : ∀ i m nx, J i m nx → (ax, ({ cls := .type "list", data := .seq its k } : Obj)) ∈ nx) (hJ : J 0 m₀ news)
    (turn : ∀ i v m₁ nx, its[i]? = some v → J i m₁ nx → ∃ (t : Addr) (ot : Obj) (v₁ v₂ v₃ : Value) (nt : Nat), v = .ref t ∧ (t, ot) ∈ nx ∧ ot.cls = .type "tuple" ∧ ot.data = .seq #[v₁, v₂, v₃] nt ∧
      ∀ I oI (s₁ : Shared), Fr h₀ L s₁.heap (fun y => if y = x₃ then some v₃ else if y = x₂ then some v₂ else if y = x then some v₁ else m₁ y) → (∀ p ∈ nx, p.1 ≠ I) → News h₀ L s₁.heap ((I, oI) :: nx) →
        wpAny (model prog w) A (execs body (envX name scope L a cd cl)) (fun f s₂ => f = .next ∧ ∃ h' tk' m' nx', s₂ = { s₁ with heap := h', toks := tk' } ∧ Fr h₀ L h' m' ∧ News h₀ L h' ((I, oI) :: nx') ∧ (∀ p ∈ nx', p.1 ≠ I) ∧ J (i + 1) m' nx') E s₁)
    (done : ∀ m₁ nx h tk, J its.size m₁ nx → Fr h₀ L h m₁ → News h₀ L h nx → Q .next { s with heap := h, toks := tk })
    (hE : PassesOwn (model prog w) A (envX name scope L a cd cl) E) :
    wpAny (model prog w) A (exec (.For (.Tuple [.Name x px, .Name x₂ px₂, .Name x₃ px₃] tk0 tp) (.Name y0 py) body [] pos) (envX name scope L a cd cl)) Q E s := by
  refine For_invT h₀ ?_ (fun _ => rfl) hE
  refine nameX_L F hy ?_ hk hyk hyd
  have hlist : ∀ i m nx h, J i m nx → News h₀ L h nx → h.IsList ax its := fun i m nx h hJ Nh => ⟨_, (Nh _ (hsrc i m nx hJ)).1, rfl, k, rfl⟩
  have hl := hlist _ _ _ _ hJ N
  have hlt : @LT.lt Nat _ ax s.heap.objs.size := by obtain ⟨_, e, _⟩ := hl; exact Heap.lt_size e
  refine wpAny_pyIter_list hl ?_
  have W := Walks.list (prog := prog) (w := w) hh s.heap.objs.size ax (Nat.ne_of_lt hlt) its
  have hI₀ : h₀.get? s.heap.objs.size = none := next_is_new F
  have hLI : @LT.lt Nat _ L s.heap.objs.size := F.ns.lt
  have hax₀ : h₀.get? ax = none := (N _ (hsrc _ _ _ hJ)).2.2
  have haxL : ax ≠ L := (N _ (hsrc _ _ _ hJ)).2.1
  refine ⟨s.heap.objs.size, [s.heap.objs.size, ax], [s.heap.objs.size], its.size, _, _, m₀, news, J, rfl, W, ?_, ?_, ?_, ?_, F.push _, fun p hp => ⟨Heap.get?_push_of_some _ (N p hp).1, (N p hp).2⟩, ?_, hJ, ?_, ?_⟩
  · intro hm
    rcases List.mem_cons.mp hm with q | hm
    · have q' : @Eq Nat L s.heap.objs.size := q; omega
    · exact haxL (List.mem_singleton.mp hm).symm
  · intro b hb
    rw [List.mem_singleton.mp hb]; exact hI₀
  · intro p hp hI
    exact absurd (Heap.lt_size (N p hp).1) ((List.mem_singleton.mp hI) ▸ Nat.lt_irrefl _)
  · exact ⟨⟨_, Heap.get?_push_size _ rfl, rfl, rfl⟩, hl.at fun o e => Heap.get?_push_of_some _ e⟩
  · intro i s' v Q' hst hQ'
    exact letGo_listiter hst.1 hQ'
  · intro i v m₁ nx s₁ own hi hPv hJi hoff hsub hown hcomp hst F₁ N₁
    obtain ⟨t, ot, v₁, v₂, v₃, nt, rfl, hmt, hct, hdt, turn'⟩ := turn i v m₁ nx hPv hJi
    have Nn : News h₀ L s₁.heap nx := fun p hp => N₁ p (List.mem_append_right _ hp)
    obtain ⟨⟨oI, hoI, hrI⟩, hls⟩ := id hst
    have hIown : (s.heap.objs.size, oI) ∈ own := hcomp _ (.head _) hI₀ _ hoI
    have NI := N₁ _ (List.mem_append_left _ hIown)
    have ht : IsTup s₁.heap t #[v₁, v₂, v₃] := ⟨ot, (Nn _ hmt).1, hct, nt, hdt⟩
    refine assign_Tuple_tuple hh ht rfl rfl fun h₅ he => ?_
    have he' : ∀ b o, s₁.heap.get? b = some o → h₅.get? b = some o := fun b o e => he b o (Nat.ne_of_lt (Heap.lt_size e)) e
    have F₅ := F₁.keeps he'
    have N₅ : News h₀ L h₅ ((s.heap.objs.size, oI) :: nx) := fun p hp => by
      rcases List.mem_cons.mp hp with rfl | hp
      · exact ⟨he' _ _ NI.1, NI.2⟩
      · exact ⟨he' _ _ (Nn p hp).1, (Nn p hp).2⟩
    refine assignInOrder_cons (wpAny_assign_Name (wpAny_storeName_local hx F₅.ns (fun h₆ hn₆ hs₆ => ?_) (by simp [hk])))
    refine assignInOrder_cons (wpAny_assign_Name (wpAny_storeName_local hx₂ hn₆ (fun h₇ hn₇ hs₇ => ?_) (by simp [hk])))
    refine assignInOrder_cons (wpAny_assign_Name (wpAny_storeName_local hx₃ hn₇ (fun h₈ hn₈ hs₈ => ?_) (by simp [hk])))
    refine assignInOrder_nil ?_
    have hL₀ : h₀.get? L = none := kts_self F
    have old : ∀ b o, b ≠ L → h₅.get? b = some o → h₈.get? b = some o := fun b o hb e => hs₈.extBut b o hb (hs₇.extBut b o hb (hs₆.extBut b o hb e))
    have F₈ : Fr h₀ L h₈ (fun y => if y = x₃ then some v₃ else if y = x₂ then some v₂ else if y = x then some v₁ else m₁ y) :=
      ⟨hn₈, fun b o e => old b o (fun q => by rw [q, hL₀] at e; cases e) (F₅.keep b o e), F₅.above⟩
    have N₈ : News h₀ L h₈ ((s.heap.objs.size, oI) :: nx) := fun p hp => ⟨old _ _ (N₅ p hp).2.1 (N₅ p hp).1, (N₅ p hp).2⟩
    refine wpAny_mono (turn' s.heap.objs.size oI { s₁ with heap := h₈, toks := _ } F₈ (fun p hp e => hoff p hp (List.mem_singleton.mpr e)) N₈) (fun f s₂ h => ?_) fun _ _ e => e
    obtain ⟨rfl, h', tk', m', nx', rfl, F', N', off', J'⟩ := h
    refine ⟨rfl, h', tk', m', nx', rfl, F', fun p hp => ?_, fun p hp e => off' p hp (List.mem_singleton.mp e), J'⟩
    rcases List.mem_append.mp hp with hp | hp
    · have hg := hown p hp
      rcases List.mem_cons.mp (hsub p hp) with q | q
      · rw [q, hoI] at hg
        have : p = (s.heap.objs.size, oI) := Prod.ext q (Option.some.inj hg).symm
        rw [this]; exact N' _ (.head _)
      · have q' := List.mem_singleton.mp q
        have hg2 := (Nn _ (hsrc _ _ _ hJi)).1
        rw [q', hg2] at hg
        have : p = (ax, _) := Prod.ext q' (Option.some.inj hg).symm
        rw [this]; exact N' _ (.tail _ (hsrc _ _ _ J'))
    · exact N' p (.tail _ hp)
  · intro h' tk m' news' F' N' _ hJ'
    exact done m' news' h' tk hJ' F' N'

local macro_rules | `(tactic| walk_at "eval Name") => `(tactic| (k_here; (with_reducible show wpAny _ _ (eval (Expr.Name _ _) (envX _ _ _ _ _ _)) _ _ _); k_dflt (refine' nameX_L ?F ?v ?_ ?a ?b ?c; (case a => rfl); (case b => rfl); (case c => decide); (case F => k_asm); (case v => first | assumption | (with_unfolding_all assumption)); k_whole)))

/-- values that two lists are told equal by, truth values too -/
def okB : Nat → Dat → Bool
  | _, .none => true
  | _, .bool _ => true
  | _, .int _ => true
  | _, .str x => PyData.strOk x
  | n + 1, .tuple ds => ds.all (okB n)
  | n + 1, .list ds => ds.all (okB n)
  | _, _ => false
section
variable {h₀ h : Heap} {L : Addr} {news : Led}
mutual
theorem datB_in (N : News h₀ L h news) : ∀ {v : Value} {d : Dat} (n : Nat), DatIn news v d → okB n d = true → ∃ as, Reads h v (kqdP d) as
  | _, _, _, .none, _ => ⟨_, Reads.none⟩
  | _, _, _, .bool b, _ => ⟨_, Reads.bool b⟩
  | _, _, _, .int i t, _ => ⟨_, Reads.int i t⟩
  | _, _, _, .str x t, _ => ⟨_, Reads.str x t⟩
  | _, _, n, .bytes _ _, hk => by cases n <;> simp [okB] at hk
  | _, _, 0, .tuple _ _, hk => by simp [okB] at hk
  | _, _, 0, .list _ _, hk => by simp [okB] at hk
  | _, _, n + 1, .tuple hm r, hk => by
    obtain ⟨as, q⟩ := datB_all N n r (by simpa [okB] using hk)
    rw [kqdP]
    exact ⟨as, reads_tuple_at (N.get hm) rfl rfl (by simpa using q)⟩
  | _, _, n + 1, .list hm r, hk => by
    obtain ⟨as, q⟩ := datB_all N n r (by simpa [okB] using hk)
    rw [kqdP]
    exact ⟨_, reads_list_at (N.get hm) rfl rfl (by simpa [W.listOf] using q)⟩
theorem datB_all (N : News h₀ L h news) : ∀ {vs : List Value} {ds : List Dat} (n : Nat), DatAll news vs ds → (∀ d ∈ ds, okB n d = true) → ∃ as, ReadsAll h vs (kqdPs ds) as
  | _, _, _, .nil, _ => ⟨_, ReadsAll.nil⟩
  | _, _, n, .cons hd r, hk => by
    obtain ⟨as, q⟩ := datB_in N n hd (hk _ (.head _))
    obtain ⟨bs, p⟩ := datB_all N n r fun d hm => hk d (.tail _ hm)
    rw [kqdPs]
    exact ⟨_, ReadsAll.cons q p⟩
end
end
theorem layB_all {n : Nat} (ih : ∀ d, okB n d = true → (kqdP d).canLay0 = true ∧ (kqdP d).depth ≤ n) : ∀ ds : List Dat, (∀ d ∈ ds, okB n d = true) → PyData.canLayAll0 (kqdPs ds) = true ∧ PyData.depthAll (kqdPs ds) ≤ n
  | [], _ => by simp [kqdPs, PyData.canLayAll0, PyData.depthAll]
  | d :: ds, h => by
    have h1 := ih d (h d (.head _))
    have h2 := layB_all ih ds fun e he => h e (.tail _ he)
    simp only [kqdPs, PyData.canLayAll0, PyData.depthAll, h1.1, h2.1, Bool.and_self, true_and]
    have a1 := h1.2
    have a2 := h2.2
    omega
theorem layB : ∀ (n : Nat) (d : Dat), okB n d = true → (kqdP d).canLay0 = true ∧ (kqdP d).depth ≤ n
  | 0, d, h => by cases d <;> simp_all [okB, kqdP, PyData.canLay0, PyData.depth]
  | n + 1, d, h => by
    cases d with
    | none => simp [kqdP, PyData.canLay0, PyData.depth]
    | bool b => simp [kqdP, PyData.canLay0, PyData.depth]
    | int i => simp [kqdP, PyData.canLay0, PyData.depth]
    | str x => simp [okB] at h; simp [kqdP, PyData.canLay0, PyData.depth, h]
    | bytes b => simp [okB] at h
    | tuple ds =>
      have q := layB_all (layB n) ds (by simpa [okB] using h)
      have q2 := q.2
      simp only [kqdP, PyData.canLay0, PyData.depth, q.1, true_and]
      omega
    | list ds =>
      have q := layB_all (layB n) ds (by simpa [okB] using h)
      have q2 := q.2
      simp only [kqdP, PyData.canLay0, PyData.depth, q.1, true_and]
      omega
theorem reflB_all {n : Nat} (ih : ∀ d, okB n d = true → PyData.eqv (kqdP d) (kqdP d) = true) : ∀ ds : List Dat, (∀ d ∈ ds, okB n d = true) → PyData.eqvAll (kqdPs ds) (kqdPs ds) = true
  | [], _ => by simp [kqdPs, PyData.eqvAll]
  | d :: ds, h => by
    simp only [kqdPs, PyData.eqvAll, Bool.and_eq_true]
    exact ⟨ih d (h d (.head _)), reflB_all ih ds fun e he => h e (.tail _ he)⟩
theorem reflB : ∀ (n : Nat) (d : Dat), okB n d = true → PyData.eqv (kqdP d) (kqdP d) = true
  | 0, d, h => by cases d <;> simp_all [okB, kqdP, PyData.eqv]
  | n + 1, d, h => by
    cases d with
    | bytes b => simp [okB] at h
    | tuple ds => simpa [kqdP, PyData.eqv] using reflB_all (reflB n) ds (by simpa [okB] using h)
    | list ds => simpa [kqdP, PyData.eqv] using reflB_all (reflB n) ds (by simpa [okB] using h)
    | _ => simp [kqdP, PyData.eqv]
section
variable {prog : Program} {w : World} {A : Around} {E : Value → Shared → Prop} {s : Shared} {h₀ : Heap} {L a b : Addr} {news n₁ n₂ : Led} {xs ys : List Value} {ka kb : Nat} {ds : List Dat} {Q : Value → Shared → Prop}
theorem same_parts (N : News h₀ L s.heap news) (ma : (a, listOf xs.toArray ka) ∈ news) (Da : DatAll n₁ xs ds) (sa : ∀ p ∈ n₁, p ∈ news) (ha : ∀ d ∈ ds, okB 6 d = true) :
    (∃ as, Reads s.heap (.ref a) (.list (kqdPs ds)) as) ∧ SeqAt.shaped (.list (kqdPs ds)) = true ∧ PyData.eqv (.list (kqdPs ds)) (.list (kqdPs ds)) = true := by
  obtain ⟨as, ra⟩ := datB_all N 6 (Da.mono sa) ha
  have la := layB 7 (.list ds) (by simpa [okB] using ha)
  have lr := reflB 7 (.list ds) (by simpa [okB] using ha)
  rw [kqdP] at la lr
  refine ⟨⟨_, reads_list_at (N.get ma) rfl rfl (by simpa using ra)⟩, ?_, lr⟩
  unfold SeqAt.shaped; rw [la.1, Bool.true_and]; exact decide_eq_true (Nat.le_trans la.2 (by decide))
theorem same_ne (N : News h₀ L s.heap news) (ma : (a, listOf xs.toArray ka) ∈ news) (Da : DatAll n₁ xs ds) (sa : ∀ p ∈ n₁, p ∈ news) (mb : (b, listOf ys.toArray kb) ∈ news) (Db : DatAll n₂ ys ds) (sb : ∀ p ∈ n₂, p ∈ news)
    (ha : ∀ d ∈ ds, okB 6 d = true) (hu : A.units + 64 < cLine) (h : Q (.bool false) s) : wpAny (model prog w) A (compareOp .NotEq (.ref a) (.ref b)) Q E s := by
  obtain ⟨⟨as, ra⟩, s1, e⟩ := same_parts N ma Da sa ha
  obtain ⟨⟨bs, rb⟩, _, _⟩ := same_parts N mb Db sb ha
  exact ne_dataH ra rb s1 s1 hu (by rw [e]; exact h)
theorem same_eq (N : News h₀ L s.heap news) (ma : (a, listOf xs.toArray ka) ∈ news) (Da : DatAll n₁ xs ds) (sa : ∀ p ∈ n₁, p ∈ news) (mb : (b, listOf ys.toArray kb) ∈ news) (Db : DatAll n₂ ys ds) (sb : ∀ p ∈ n₂, p ∈ news)
    (ha : ∀ d ∈ ds, okB 6 d = true) (hu : A.units + 64 < cLine) (h : Q (.bool true) s) : wpAny (model prog w) A (compareOp .Eq (.ref a) (.ref b)) Q E s := by
  obtain ⟨⟨as, ra⟩, s1, e⟩ := same_parts N ma Da sa ha
  obtain ⟨⟨bs, rb⟩, _, _⟩ := same_parts N mb Db sb ha
  exact eq_dataH ra rb s1 s1 hu (by rw [e]; exact h)
end
theorem strs_dat : ∀ {vs : List Value} {xs : List Str}, StrsAre vs xs → DatAll [] vs (xs.map Dat.str)
  | _, _, .nil => .nil
  | _, _, .cons x t r => .cons (.str x t) (strs_dat r)
theorem text_ok {x : Span} (h : spanOk x = true) : PyData.strOk x.text = true := by
  obtain ⟨h0, h1, h2, h3⟩ := ok_parts h
  have a := end_str h2
  have b := end_str h3
  unfold PyData.strOk at a b ⊢
  simp only [Array.all_eq_true_iff_forall_mem] at a b ⊢
  intro c hc
  have hc' : c ∈ x.codes := by rw [← text_list]; exact Array.mem_toList_iff.mpr hc
  rw [codes_eq] at hc'
  simp only [Span.mid, List.mem_cons, List.mem_append, List.not_mem_nil, or_false] at hc'
  rcases hc' with rfl | (hc' | rfl | hc') | rfl
  · rcases h0 with h | h <;> rw [h] <;> decide
  · exact a c (Array.mem_toList_iff.mp hc')
  · decide
  · exact b c (Array.mem_toList_iff.mp hc')
  · rcases h1 with h | h <;> rw [h] <;> decide
theorem bounds_ok {x : Span} (h : spanOk x = true) : PyData.strOk ⟨#[x.b0, x.b1]⟩ = true := by
  obtain ⟨h0, h1, _, _⟩ := ok_parts h
  rcases h0 with e | e <;> rcases h1 with f | f <;> rw [e, f] <;> decide +kernel

def Tab3 (o1 o2 o3 : Obj) (Z : Led) : Prop := rTab o1 Z ∧ fTab o2 Z ∧ gTab o3 Z ∧ ∀ p ∈ Z, p.1 ≠ 87 ∧ p.1 ≠ 64 ∧ p.1 ≠ 57
abbrev tabs (o1 o2 o3 : Obj) : Led := [(87, o1), (64, o2), (57, o3)]
/-- the reader that _multirange_in made is called from a frame that does not catch, its adapter never refusing -/
theorem told_c {w : World} {p : Program} {loose : List Str} {mean : ExcName → Option Value} {mg mb : Str → Option Value}
    {dp un : Nat} {gd : Option (List Code)} {cn : Str} {cs : Scope} {a : Addr} {ccd : Value} {cl : List (Str × Addr)} {outer : List Env} {A₀ : Around} {base h₀ : Heap} {L : Addr} {m : Str → Option Value} {s : Shared} {Q E : Value → Shared → Prop}
    {f q ha : Addr} {o1 o2 o3 : Obj} {n0 : Nat} {Z : Led} {data : Str} {td : Tok}
    {qc : Value} {qd : Option Addr} {fd : FuncData} {qs : Array (Option Value)} {spans : List Span}
    {Inv : Led → List Span → List Value → Prop} {Bad : Led → List Span → Span → Prop} {go : List Span → Span → Bool} {d u : Nat}
    (AT : At w p loose mean mg mb cs outer A₀ base h₀ L m s.heap ((ha, listOf #[] n0) :: (tabs o1 o2 o3 ++ Z)))
    (hM : MultiIn Z f q) (hha : ∀ p ∈ tabs o1 o2 o3 ++ Z, p.1 ≠ ha)
    (hq : ∀ R xs vs, Inv R xs vs → (q, (⟨qc, qd, .func fd, qs⟩ : Obj)) ∈ R) (hlen : ∀ R xs vs, Inv R xs vs → vs.length = xs.length)
    (hI : Inv ((ha, listOf #[] n0) :: Z) [] []) (hhd : ∀ R xs vs, Inv R xs vs → ∃ o, (ha, o) ∈ R) (AD : AdC w p loose mean mg mb d u (.ref q) ha Inv Bad go)
    (hscan : scan data.cps.toList = (false, [], spans.map Span.codes)) (hdl : data.length ≤ 900) (hsp : spans.length ≤ 7) (hok : ∀ x ∈ spans, spanOk x = true)
    (hgo : ∀ j (h : j < spans.length), go (spans.take j) spans[j] = true)
    (hdp : dp + d + 20 < recursionLimit) (hun : un + u + 200 < cLine)
    (hret : ∀ r vs R' n h' tk', Inv R' spans vs → Fr h₀ L h' m → News h₀ L h' ((r, listOf vs.toArray n) :: ((tabs o1 o2 o3 ++ Z) ++ R')) → (∀ x ∈ R', x.1 ≠ r) → (∀ x ∈ (ha, listOf #[] n0) :: (tabs o1 o2 o3 ++ Z), x.1 < r) → Q (.ref r) { s with heap := h', toks := tk' }) :
    wpAny (model PySem.Challenge.rw_ej5023_01.row.prog w) (ktrTop dp un gd cn cs L a ccd cl outer) (call (.ref f) [.str data td]) Q E s := by
  obtain ⟨B, F, X, T, hk, N, C1, C2, C3⟩ := AT
  obtain ⟨cA, c', oA, oc, vc, doc, pm, ct, tc, m1, m2, m3, m4, m5, m6⟩ := hM
  have up : ∀ x ∈ Z, x ∈ tabs o1 o2 o3 ++ Z := fun x hx => List.mem_append_right _ hx
  refine f_c (front := tabs o1 o2 o3 ++ Z) (R := (ha, listOf #[] n0) :: Z) ⟨B, F, X, T, hk, news_sub N ?_, C1, C2, C3⟩ (up _ m1) (up _ m2) (up _ m3) m4 m5 m6 hq hlen hI hhd hha AD hscan hdl hsp hok hdp hun ?_ ?_
  · intro x hx
    simp only [List.mem_append, List.mem_cons] at hx ⊢
    rcases hx with h | h | h
    · exact .inr h
    · exact .inl h
    · exact .inr (.inr h)
  · intro _ r vs R' n h' tk' hI' F' N' _ hr1 hr2
    refine hret r vs R' n h' tk' hI' F' N' hr1 fun x hx => hr2 x ?_
    rcases List.mem_cons.mp hx with rfl | hx
    · exact List.mem_append_right _ (.head _)
    · exact List.mem_append_left _ hx
  · intro j hj hg
    rw [hgo j hj] at hg
    cases hg

theorem l92 {w : World} {p : Program} {loose : List Str} {mean : ExcName → Option Value} {mg mb : Str → Option Value}
    {dp un : Nat} {gd : Option (List Code)} {cn : Str} {cs : Scope} {a : Addr} {ccd : Value} {cl : List (Str × Addr)} {outer : List Env} {A₀ : Around} {base h₀ : Heap} {L : Addr} {m : Str → Option Value} {s : Shared} {Q E : Value → Shared → Prop}
    {ha ha2 : Addr} {stop : Int} {ts : Tok} {o1 o2 o3 oh : Obj} {Z : Led}
    (AT : At w p loose mean mg mb cs outer A₀ base h₀ L m s.heap ((ha, oh) :: (tabs o1 o2 o3 ++ Z))) (hT : Tab3 o1 o2 o3 Z) (hha : ha ≠ 87 ∧ ha ≠ 64 ∧ ha ≠ 57)
    (hdp : dp + 2 < recursionLimit) (hun : un + 16 < cLine)
    (hret : ∀ f U o' h' tk', RdIn (U ++ Z) f ha2 stop → Tab3 o' o2 o3 (U ++ Z) → (∀ q ∈ U, ∀ z ∈ (ha, oh) :: (tabs o1 o2 o3 ++ Z), z.1 < q.1) → Fr h₀ L h' m → News h₀ L h' ((ha, oh) :: (tabs o' o2 o3 ++ (U ++ Z))) → Q (.ref f) { s with heap := h', toks := tk' }) :
    wpAny (model PySem.Challenge.rw_ej5023_01.row.prog w) (ktrTop dp un gd cn cs L a ccd cl outer) (call (.ref 92) [.ref ha2, .int stop ts]) Q E s := by
  obtain ⟨B, F, X, T, hk, N, C1, C2, C3⟩ := AT
  refine mk_listener (o := o1) (Y := [(ha, oh), (64, o2), (57, o3)]) (Z := Z) ⟨B, F, X, T, hk, news_sub N ?_, C1, C2, C3⟩ hT.1 ?_ hdp hun fun f U o' h' tk' b1 b2 b3 F' N' => ?_
  · intro q hq
    simp only [List.mem_cons, List.mem_append, List.not_mem_nil, or_false] at hq ⊢
    rcases hq with h | (h | h | h) | h <;> simp [h]
  · intro q hq
    simp only [List.mem_cons, List.mem_append, List.not_mem_nil, or_false] at hq
    rcases hq with (rfl | rfl | rfl) | h
    · exact hha.1
    · exact Nat.ne_of_beq_eq_false rfl
    · exact Nat.ne_of_beq_eq_false rfl
    · exact (hT.2.2.2 q h).1
  · have upZ : ∀ q ∈ Z, q ∈ U ++ Z := fun q hq => List.mem_append_right _ hq
    have fr : ∀ q ∈ U, ∀ z ∈ (ha, oh) :: (tabs o1 o2 o3 ++ Z), z.1 < q.1 := by
      intro q hq z hz
      simp only [List.mem_cons, List.mem_append, List.not_mem_nil, or_false] at hz
      have k := b3 q hq
      rcases hz with rfl | (rfl | rfl | rfl) | h
      · exact k.2 _ (.head _)
      · exact k.1
      · exact k.2 (64, o2) (.tail _ (.head _))
      · exact k.2 (57, o3) (.tail _ (.tail _ (.head _)))
      · exact k.2 z (List.mem_append_right _ h)
    refine hret f U o' h' tk' b1 ⟨b2, hT.2.1.mono upZ, hT.2.2.1.mono upZ, fun q hq => ?_⟩ fr F' (news_sub N' fun q hq => ?_)
    · rcases List.mem_append.mp hq with hq | hq
      · exact ⟨Nat.ne_of_gt (fr q hq _ (.tail _ (.head _))), Nat.ne_of_gt (fr q hq _ (.tail _ (.tail _ (.head _)))), Nat.ne_of_gt (fr q hq _ (.tail _ (.tail _ (.tail _ (.head _)))))⟩
      · exact hT.2.2.2 q hq
    · simp only [List.mem_cons, List.mem_append, List.not_mem_nil, or_false] at hq ⊢
      rcases hq with h | (h | h | h) | h | h <;> simp [h]
theorem l69 {w : World} {p : Program} {loose : List Str} {mean : ExcName → Option Value} {mg mb : Str → Option Value}
    {dp un : Nat} {gd : Option (List Code)} {cn : Str} {cs : Scope} {a : Addr} {ccd : Value} {cl : List (Str × Addr)} {outer : List Env} {A₀ : Around} {base h₀ : Heap} {L : Addr} {m : Str → Option Value} {s : Shared} {Q E : Value → Shared → Prop}
    {ha q2 : Addr} {o1 o2 o3 oh : Obj} {Z : Led}
    (AT : At w p loose mean mg mb cs outer A₀ base h₀ L m s.heap ((ha, oh) :: (tabs o1 o2 o3 ++ Z))) (hT : Tab3 o1 o2 o3 Z) (hha : ha ≠ 87 ∧ ha ≠ 64 ∧ ha ≠ 57)
    (hdp : dp + 2 < recursionLimit) (hun : un + 16 < cLine)
    (hret : ∀ f U o' h' tk', MultiIn (U ++ Z) f q2 → Tab3 o1 o' o3 (U ++ Z) → (∀ q ∈ U, ∀ z ∈ (ha, oh) :: (tabs o1 o2 o3 ++ Z), z.1 < q.1) → Fr h₀ L h' m → News h₀ L h' ((ha, oh) :: (tabs o1 o' o3 ++ (U ++ Z))) → Q (.ref f) { s with heap := h', toks := tk' }) :
    wpAny (model PySem.Challenge.rw_ej5023_01.row.prog w) (ktrTop dp un gd cn cs L a ccd cl outer) (call (.ref 69) [.ref q2]) Q E s := by
  obtain ⟨B, F, X, T, hk, N, C1, C2, C3⟩ := AT
  refine mk_multi (o := o2) (Y := [(ha, oh), (87, o1), (57, o3)]) (Z := Z) ⟨B, F, X, T, hk, news_sub N ?_, C1, C2, C3⟩ hT.2.1 ?_ hdp hun fun f U o' h' tk' b1 b2 b3 F' N' => ?_
  · intro q hq
    simp only [List.mem_cons, List.mem_append, List.not_mem_nil, or_false] at hq ⊢
    rcases hq with h | (h | h | h) | h <;> simp [h]
  · intro q hq
    simp only [List.mem_cons, List.mem_append, List.not_mem_nil, or_false] at hq
    rcases hq with (rfl | rfl | rfl) | h
    · exact hha.2.1
    · exact Nat.ne_of_beq_eq_false rfl
    · exact Nat.ne_of_beq_eq_false rfl
    · exact (hT.2.2.2 q h).2.1
  · have upZ : ∀ q ∈ Z, q ∈ U ++ Z := fun q hq => List.mem_append_right _ hq
    have fr : ∀ q ∈ U, ∀ z ∈ (ha, oh) :: (tabs o1 o2 o3 ++ Z), z.1 < q.1 := by
      intro q hq z hz
      simp only [List.mem_cons, List.mem_append, List.not_mem_nil, or_false] at hz
      have k := b3 q hq
      rcases hz with rfl | (rfl | rfl | rfl) | h
      · exact k.2 _ (.head _)
      · exact k.2 (87, o1) (.tail _ (.head _))
      · exact k.1
      · exact k.2 (57, o3) (.tail _ (.tail _ (.head _)))
      · exact k.2 z (List.mem_append_right _ h)
    refine hret f U o' h' tk' b1 ⟨hT.1.mono upZ, b2, hT.2.2.1.mono upZ, fun q hq => ?_⟩ fr F' (news_sub N' fun q hq => ?_)
    · rcases List.mem_append.mp hq with hq | hq
      · exact ⟨Nat.ne_of_gt (fr q hq _ (.tail _ (.head _))), Nat.ne_of_gt (fr q hq _ (.tail _ (.tail _ (.head _)))), Nat.ne_of_gt (fr q hq _ (.tail _ (.tail _ (.tail _ (.head _)))))⟩
      · exact hT.2.2.2 q hq
    · simp only [List.mem_cons, List.mem_append, List.not_mem_nil, or_false] at hq ⊢
      rcases hq with h | (h | h | h) | h | h <;> simp [h]
theorem l62 {w : World} {p : Program} {loose : List Str} {mean : ExcName → Option Value} {mg mb : Str → Option Value}
    {dp un : Nat} {gd : Option (List Code)} {cn : Str} {cs : Scope} {a : Addr} {ccd : Value} {cl : List (Str × Addr)} {outer : List Env} {A₀ : Around} {base h₀ : Heap} {L : Addr} {m : Str → Option Value} {s : Shared} {Q E : Value → Shared → Prop}
    {ha q2 : Addr} {o1 o2 o3 oh : Obj} {Z : Led}
    (AT : At w p loose mean mg mb cs outer A₀ base h₀ L m s.heap ((ha, oh) :: (tabs o1 o2 o3 ++ Z))) (hT : Tab3 o1 o2 o3 Z) (hha : ha ≠ 87 ∧ ha ≠ 64 ∧ ha ≠ 57)
    (hdp : dp + 2 < recursionLimit) (hun : un + 16 < cLine)
    (hret : ∀ f U o' h' tk', RangeIn (U ++ Z) f q2 → Tab3 o1 o2 o' (U ++ Z) → (∀ q ∈ U, ∀ z ∈ (ha, oh) :: (tabs o1 o2 o3 ++ Z), z.1 < q.1) → Fr h₀ L h' m → News h₀ L h' ((ha, oh) :: (tabs o1 o2 o' ++ (U ++ Z))) → Q (.ref f) { s with heap := h', toks := tk' }) :
    wpAny (model PySem.Challenge.rw_ej5023_01.row.prog w) (ktrTop dp un gd cn cs L a ccd cl outer) (call (.ref 62) [.ref q2]) Q E s := by
  obtain ⟨B, F, X, T, hk, N, C1, C2, C3⟩ := AT
  refine mk_range (o := o3) (Y := [(ha, oh), (87, o1), (64, o2)]) (Z := Z) ⟨B, F, X, T, hk, news_sub N ?_, C1, C2, C3⟩ hT.2.2.1 ?_ hdp hun fun f U o' h' tk' b1 b2 b3 F' N' => ?_
  · intro q hq
    simp only [List.mem_cons, List.mem_append, List.not_mem_nil, or_false] at hq ⊢
    rcases hq with h | (h | h | h) | h <;> simp [h]
  · intro q hq
    simp only [List.mem_cons, List.mem_append, List.not_mem_nil, or_false] at hq
    rcases hq with (rfl | rfl | rfl) | h
    · exact hha.2.2
    · exact Nat.ne_of_beq_eq_false rfl
    · exact Nat.ne_of_beq_eq_false rfl
    · exact (hT.2.2.2 q h).2.2
  · have upZ : ∀ q ∈ Z, q ∈ U ++ Z := fun q hq => List.mem_append_right _ hq
    have fr : ∀ q ∈ U, ∀ z ∈ (ha, oh) :: (tabs o1 o2 o3 ++ Z), z.1 < q.1 := by
      intro q hq z hz
      simp only [List.mem_cons, List.mem_append, List.not_mem_nil, or_false] at hz
      have k := b3 q hq
      rcases hz with rfl | (rfl | rfl | rfl) | h
      · exact k.2 _ (.head _)
      · exact k.2 (87, o1) (.tail _ (.head _))
      · exact k.2 (64, o2) (.tail _ (.tail _ (.head _)))
      · exact k.1
      · exact k.2 z (List.mem_append_right _ h)
    refine hret f U o' h' tk' b1 ⟨hT.1.mono upZ, hT.2.1.mono upZ, b2, fun q hq => ?_⟩ fr F' (news_sub N' fun q hq => ?_)
    · rcases List.mem_append.mp hq with hq | hq
      · exact ⟨Nat.ne_of_gt (fr q hq _ (.tail _ (.head _))), Nat.ne_of_gt (fr q hq _ (.tail _ (.tail _ (.head _)))), Nat.ne_of_gt (fr q hq _ (.tail _ (.tail _ (.tail _ (.head _)))))⟩
      · exact hT.2.2.2 q hq
    · simp only [List.mem_cons, List.mem_append, List.not_mem_nil, or_false] at hq ⊢
      rcases hq with h | (h | h | h) | h | h <;> simp [h]

def lawDef : Stmt := stmtAt 14
abbrev lawQ : Str := Str.ofString "law"
abbrev tx : Str := Str.ofString "texts"
def spanD (x : Span) : Dat := Dat.tuple [.str ⟨#[x.b0, x.b1]⟩, .str x.lo, .str x.hi]
def l1Body : List Stmt := forBody (nthS (fnBody lawDef) 2)
set_option maxHeartbeats 2000000 in
theorem l1_turn {w : World} {p : Program} {loose : List Str} {mean : ExcName → Option Value} {mg mb : Str → Option Value}
    {dp un : Nat} {gd : Option (List Code)} {fa cT : Addr} {cd : Value} {outer : List Env} {A₀ : Around} {base h₀ : Heap} {L : Addr} {m : Str → Option Value} {s : Shared} {Q : Flow → Shared → Prop} {E : Value → Shared → Prop}
    {sp st D : Addr} {vs ws : List Value} {ns : List Int} {nv nn nD : Nat} {k : Int} {t : Tok} {Z : Led}
    (AT : At w p loose mean mg mb (fnScope lawDef) outer A₀ base h₀ L m s.heap ((sp, listOf vs.toArray nv) :: (st, listOf #[.ref D, .int k t] nn) :: (D, listOf ws.toArray nD) :: Z))
    (hm1 : m (Str.ofString "state") = some (.ref st)) (hm2 : m (Str.ofString "spans") = some (.ref sp)) (hi : IntsAre ws ns) (hlen : ns.length ≤ 63) (hk0 : 0 ≤ k) (hk1 : k ≤ 900) (hvs : vs.length ≤ 100)
    (hne1 : @Ne Nat D st) (hne2 : @Ne Nat sp st) (hne3 : @Ne Nat sp D) (hZ1 : ∀ p ∈ Z, p.1 ≠ sp) (hZ2 : ∀ p ∈ Z, p.1 ≠ st)
    (hdp : dp + 20 < recursionLimit) (hun : un + 200 < cLine)
    (K : ∀ (x : Span) r b tb tl th k' t' m' h' tk', spanOk x = true → b = ⟨#[x.b0, x.b1]⟩ → k ≤ k' → k' ≤ k + 5 → m' (Str.ofString "state") = some (.ref st) → m' (Str.ofString "spans") = some (.ref sp) → Fr h₀ L h' m' → (∀ z ∈ (sp, listOf vs.toArray nv) :: (st, listOf #[.ref D, .int k t] nn) :: (D, listOf ws.toArray nD) :: Z, z.1 < r) →
      News h₀ L h' ((r, { cls := .type "tuple", data := .seq #[.str b tb, .str x.lo tl, .str x.hi th] }) :: (sp, listOf (vs ++ [Value.ref r]).toArray (nv + 1)) :: (st, listOf #[.ref D, .int k' t'] nn) :: (D, listOf ws.toArray nD) :: Z) → Q .next { s with heap := h', toks := tk' }) :
    wpAny (model PySem.Challenge.rw_ej5023_01.row.prog w) (ktrTop dp un gd lawQ (fnScope lawDef) L fa cd [(tx, cT)] outer) (execs l1Body (envX lawQ (fnScope lawDef) L fa cd [(tx, cT)])) Q E s := by
  obtain ⟨B, F, X, T, hk, N, C1, C2, C3⟩ := AT
  w_top off; revert X; k_fill; intro X
  conv in l1Body => whnf
  k_steps
  · (rename News h₀ L _ ((_, _) :: (sp, _) :: _) => N9)
    simp only [List.push_toArray] at N9
    refine K ⟨91, 41, _, _⟩ _ _ _ _ _ _ _ _ _ _ ?_ (by dsimp only; decide +kernel) ?_ ?_ ?_ ?_ (by assumption) ?_ N9
    · unfold spanOk
      simp only [Bool.and_eq_true]
      exact ⟨⟨⟨by decide, by decide⟩, by assumption⟩, by assumption⟩
    · omega
    · omega
    · first | exact hm1 | (with_unfolding_all exact hm1)
    · first | exact hm2 | (with_unfolding_all exact hm2)
    · intro z hz
      (rename _ ∧ _ => lf)
      simp only [List.mem_cons] at hz
      rcases hz with rfl | rfl | rfl | hz
      · exact lf.1
      · exact lf.2.1
      · exact lf.2.2.1
      · exact allLt_mem lf.2.2.2 z hz
  · (rename News h₀ L _ ((_, _) :: (sp, _) :: _) => N9)
    simp only [List.push_toArray] at N9
    refine K ⟨91, 93, _, _⟩ _ _ _ _ _ _ _ _ _ _ ?_ (by dsimp only; decide +kernel) ?_ ?_ ?_ ?_ (by assumption) ?_ N9
    · unfold spanOk
      simp only [Bool.and_eq_true]
      exact ⟨⟨⟨by decide, by decide⟩, by assumption⟩, by assumption⟩
    · omega
    · omega
    · first | exact hm1 | (with_unfolding_all exact hm1)
    · first | exact hm2 | (with_unfolding_all exact hm2)
    · intro z hz
      (rename _ ∧ _ => lf)
      simp only [List.mem_cons] at hz
      rcases hz with rfl | rfl | rfl | hz
      · exact lf.1
      · exact lf.2.1
      · exact lf.2.2.1
      · exact allLt_mem lf.2.2.2 z hz
  · (rename News h₀ L _ ((_, _) :: (sp, _) :: _) => N9)
    simp only [List.push_toArray] at N9
    refine K ⟨40, 41, _, _⟩ _ _ _ _ _ _ _ _ _ _ ?_ (by dsimp only; decide +kernel) ?_ ?_ ?_ ?_ (by assumption) ?_ N9
    · unfold spanOk
      simp only [Bool.and_eq_true]
      exact ⟨⟨⟨by decide, by decide⟩, by assumption⟩, by assumption⟩
    · omega
    · omega
    · first | exact hm1 | (with_unfolding_all exact hm1)
    · first | exact hm2 | (with_unfolding_all exact hm2)
    · intro z hz
      (rename _ ∧ _ => lf)
      simp only [List.mem_cons] at hz
      rcases hz with rfl | rfl | rfl | hz
      · exact lf.1
      · exact lf.2.1
      · exact lf.2.2.1
      · exact allLt_mem lf.2.2.2 z hz
  · (rename News h₀ L _ ((_, _) :: (sp, _) :: _) => N9)
    simp only [List.push_toArray] at N9
    refine K ⟨40, 93, _, _⟩ _ _ _ _ _ _ _ _ _ _ ?_ (by dsimp only; decide +kernel) ?_ ?_ ?_ ?_ (by assumption) ?_ N9
    · unfold spanOk
      simp only [Bool.and_eq_true]
      exact ⟨⟨⟨by decide, by decide⟩, by assumption⟩, by assumption⟩
    · omega
    · omega
    · first | exact hm1 | (with_unfolding_all exact hm1)
    · first | exact hm2 | (with_unfolding_all exact hm2)
    · intro z hz
      (rename _ ∧ _ => lf)
      simp only [List.mem_cons] at hz
      rcases hz with rfl | rfl | rfl | hz
      · exact lf.1
      · exact lf.2.1
      · exact lf.2.2.1
      · exact allLt_mem lf.2.2.2 z hz

def L1J (sp st D cT : Addr) (oT : Obj) (ws : List Value) (nD nn : Nat) (Z0 : Led) (i : Nat) (m : Str → Option Value) (nx : Led) : Prop :=
  ∃ (vs : List Value) (nv : Nat) (k : Int) (t : Tok) (tl : Led) (xs : List Span), nx = (sp, listOf vs.toArray nv) :: (st, listOf #[.ref D, .int k t] nn) :: (D, listOf ws.toArray nD) :: (tl ++ (cT, oT) :: Z0) ∧ vs.length = i ∧ 0 ≤ k ∧ k ≤ 1 + 5 * (i : Int) ∧
    m (Str.ofString "state") = some (.ref st) ∧ m (Str.ofString "spans") = some (.ref sp) ∧ DatAll tl vs (xs.map spanD) ∧ (∀ x ∈ xs, spanOk x = true) ∧ (∀ p ∈ tl, @LT.lt Nat _ sp p.1 ∧ ∀ z ∈ Z0, z.1 < p.1)
theorem law1_loop {w : World} {p : Program} {loose : List Str} {mean : ExcName → Option Value} {mg mb : Str → Option Value}
    {dp un : Nat} {gd : Option (List Code)} {fa cT : Addr} {cd : Value} {outer : List Env} {A₀ : Around} {base h₀ : Heap} {L : Addr} {m : Str → Option Value} {s : Shared} {Q : Flow → Shared → Prop} {E : Value → Shared → Prop}
    {sp st D r : Addr} {ws : List Value} {ns : List Int} {nn nD n n0 : Nat} {k : Int} {t t₁ u₁ v₁ : Tok} {oT : Obj} {Z0 : Led}
    (AT : At w p loose mean mg mb (fnScope lawDef) outer A₀ base h₀ L m s.heap ((sp, listOf #[] n0) :: (st, listOf #[.ref D, .int k t] nn) :: (D, listOf ws.toArray nD) :: (cT, oT) :: Z0))
    (hr : IsRange s.heap r 0 (n : Int) 1 t₁ u₁ v₁) (hn : n ≤ 5) (hsm : Builtin.Range.small 0 (n : Int) 1 = true) (hsz : Builtin.Range.rangeSize 0 (n : Int) 1 = (n : Int))
    (hm1 : m (Str.ofString "state") = some (.ref st)) (hm2 : m (Str.ofString "spans") = some (.ref sp)) (hi : IntsAre ws ns) (hlen : ns.length ≤ 63) (hk0 : 0 ≤ k) (hk1 : k ≤ 1)
    (l1 : @LT.lt Nat _ D st) (l2 : @LT.lt Nat _ st sp) (l3 : @LT.lt Nat _ cT D) (l4 : ∀ p ∈ Z0, @LT.lt Nat _ p.1 D)
    (hdp : dp + 20 < recursionLimit) (hun : un + 200 < cLine)
    (K : ∀ (vs : List Value) nv k' t' tl (xs : List Span) m' h' tk', vs.length = n → 0 ≤ k' → k' ≤ 26 → m' (Str.ofString "state") = some (.ref st) → m' (Str.ofString "spans") = some (.ref sp) → DatAll tl vs (xs.map spanD) → (∀ x ∈ xs, spanOk x = true) → (∀ p ∈ tl, @LT.lt Nat _ sp p.1 ∧ ∀ z ∈ Z0, z.1 < p.1) →
      Fr h₀ L h' m' → News h₀ L h' ((sp, listOf vs.toArray nv) :: (st, listOf #[.ref D, .int k' t'] nn) :: (D, listOf ws.toArray nD) :: (tl ++ (cT, oT) :: Z0)) → Q .next { s with heap := h', toks := tk' }) :
    wpAny (model PySem.Challenge.rw_ej5023_01.row.prog w) (ktrTop dp un gd lawQ (fnScope lawDef) L fa cd [(tx, cT)] outer) (pyIter (.ref r))
      (fun it s₂ => LoopAtV PySem.Challenge.rw_ej5023_01.row.prog w (ktrTop dp un gd lawQ (fnScope lawDef) L fa cd [(tx, cT)] outer) h₀ (envX lawQ (fnScope lawDef) L fa cd [(tx, cT)]) (Str.ofString "k") l1Body Q E it s₂) E s := by
  obtain ⟨B, F, X, T, hk, N, C1, C2, C3⟩ := AT
  refine wpAny_pyIter_range hr hsm ?_
  have W : Walks PySem.Challenge.rw_ej5023_01.row.prog w (ktrTop dp un gd lawQ (fnScope lawDef) L fa cd [(tx, cT)] outer) s.heap.objs.size [s.heap.objs.size] [s.heap.objs.size] n (fun i v => i < n ∧ ∃ t, v = .int (0 + i * 1) t)
      (fun i h => IsRangeIter h s.heap.objs.size (0 + (i : Nat) * 1) ((n : Int) - (i : Nat)) 1) := (Walks.range rfl _ 0 1 n).bound
  refine kdr_loop (L1J sp st D cT oT ws nD nn Z0) W (fun _ h => h) (fun _ h => h) ?_ ?_ ?_ ?_ (by show IsRangeIter _ _ _ _ _; rw [hsz]; simpa using Heap.get?_push_size _ rfl) (F.push _) (fun p hp => ⟨Heap.get?_push_of_some _ (N p hp).1, (N p hp).2⟩)
    ⟨[], n0, k, t, [], [], rfl, rfl, hk0, by omega, hm1, hm2, .nil, (fun _ h => nomatch h), fun _ h => nomatch h⟩ ?_ ?_
  · intro i h hi b hb
    rw [List.mem_singleton.mp hb]
    exact ⟨_, hi⟩
  · intro hm
    exact absurd F.ns.lt ((List.mem_singleton.mp hm) ▸ Nat.lt_irrefl _)
  · intro b hb
    rw [List.mem_singleton.mp hb]
    exact next_is_new F
  · intro p hp hI
    exact absurd (Heap.lt_size (N p hp).1) ((List.mem_singleton.mp hI) ▸ Nat.lt_irrefl _)
  · rintro i v m₁ nx h tk own hi' _ hoff ⟨vs, nv, k₁, t', tl, xs, rfl, hv, hk₀, hk₁, j1, j2, j3, j4, j5⟩ F₁ N₁
    have ownOff : ∀ q ∈ (sp, listOf vs.toArray nv) :: (st, listOf #[.ref D, .int k₁ t'] nn) :: (D, listOf ws.toArray nD) :: (tl ++ (cT, oT) :: Z0), ∀ p ∈ own, p.1 ≠ q.1 := fun q hq p hp => hoff p hp _ (List.mem_map.mpr ⟨q, hq, rfl⟩)
    refine l1_turn (Z := (tl ++ (cT, oT) :: Z0) ++ own) (sp := sp) (st := st) (D := D) (vs := vs) (ws := ws) (nv := nv) (nn := nn) (nD := nD) (k := k₁) (t := t') ⟨B, F₁, X, T, hk, N₁, C1, C2, C3⟩ ?_ ?_ hi hlen hk₀ (by omega) (by omega) (Nat.ne_of_lt l1) (Nat.ne_of_gt l2) (Nat.ne_of_gt (Nat.lt_trans l1 l2)) ?_ ?_ hdp hun ?_
    · exact j1
    · exact j2
    · intro q hq
      simp only [List.mem_append, List.mem_cons] at hq
      rcases hq with (hq | rfl | hq) | hq
      · exact Nat.ne_of_gt (j5 q hq).1
      · exact Nat.ne_of_lt (Nat.lt_trans l3 (Nat.lt_trans l1 l2))
      · exact Nat.ne_of_lt (Nat.lt_trans (l4 q hq) (Nat.lt_trans l1 l2))
      · exact ownOff _ (.head _) q hq
    · intro q hq
      simp only [List.mem_append, List.mem_cons] at hq
      rcases hq with (hq | rfl | hq) | hq
      · exact Nat.ne_of_gt (Nat.lt_trans l2 (j5 q hq).1)
      · exact Nat.ne_of_lt (Nat.lt_trans l3 l1)
      · exact Nat.ne_of_lt (Nat.lt_trans (l4 q hq) l1)
      · exact ownOff _ (.tail _ (.head _)) q hq
    · intro x r' b tb tl' th k2 t2 m' h' tk' hx hb b1 b2 b3 b4 F2 hlt N2
      refine ⟨h', tk', m', _, _, rfl, F2, N2, ?_, ?_, ?_, vs ++ [Value.ref r'], nv + 1, k2, t2, (r', { cls := .type "tuple", data := .seq #[.str b tb, .str x.lo tl', .str x.hi th] }) :: tl, xs ++ [x], rfl, ?_, by omega, by omega, b3, b4, ?_, ?_, ?_⟩
      · intro q hq
        simp only [List.mem_append, List.mem_cons, List.cons_append] at hq ⊢
        rcases hq with h | h | h | h | h | h | h
        · exact .inr (.inl h)
        · exact .inr (.inr (.inl h))
        · exact .inr (.inr (.inr (.inl h)))
        · exact .inl h
        · exact .inr (.inr (.inr (.inr (.inl (.inl h)))))
        · exact .inr (.inr (.inr (.inr (.inl (.inr (.inl h))))))
        · exact .inr (.inr (.inr (.inr (.inl (.inr (.inr h))))))
      · intro q hq
        simp only [List.mem_append, List.mem_cons, List.cons_append]
        exact .inr (.inr (.inr (.inr (.inr hq))))
      · intro p hp b' hb' e
        obtain ⟨q, hq, rfl⟩ := List.mem_map.mp hb'
        simp only [List.mem_append, List.mem_cons, List.cons_append] at hq
        rcases hq with rfl | rfl | rfl | rfl | hq | rfl | hq
        · exact ownOff _ (.head _) p hp e
        · exact ownOff _ (.tail _ (.head _)) p hp e
        · exact ownOff _ (.tail _ (.tail _ (.head _))) p hp e
        · exact Nat.ne_of_lt (hlt p (.tail _ (.tail _ (.tail _ (List.mem_append_right _ hp))))) e
        · exact ownOff q (.tail _ (.tail _ (.tail _ (List.mem_append_left _ hq)))) p hp e
        · exact ownOff (cT, oT) (.tail _ (.tail _ (.tail _ (List.mem_append_right _ (.head _))))) p hp e
        · exact ownOff q (.tail _ (.tail _ (.tail _ (List.mem_append_right _ (.tail _ hq))))) p hp e
      · rw [List.length_append, hv]; rfl
      · rw [List.map_append]
        refine (j3.mono fun q hq => List.mem_cons_of_mem _ hq).append (.one ?_)
        subst hb
        exact .tuple (vs := [Value.str ⟨#[x.b0, x.b1]⟩ tb, Value.str x.lo tl', Value.str x.hi th]) (.head _) (.cons (.str _ _) (.cons (.str _ _) (.cons (.str _ _) .nil)))
      · intro y hy
        rcases List.mem_append.mp hy with hy | hy
        · exact j4 y hy
        · rw [List.mem_singleton.mp hy]; exact hx
      · intro q hq
        rcases List.mem_cons.mp hq with rfl | hq
        · exact ⟨hlt _ (.head _), fun z hz => hlt z (.tail _ (.tail _ (.tail _ (List.mem_append_left _ (List.mem_append_right _ (.tail _ hz))))))⟩
        · exact j5 q hq
  · rintro m₁ nx h tk ⟨vs, nv, k₁, t', tl, xs, rfl, hv, hk₀, hk₁, j1, j2, j3, j4, j5⟩ F₁ N₁
    exact K vs nv k₁ t' tl xs m₁ h tk hv hk₀ (by omega) j1 j2 j3 j4 j5 F₁ N₁
set_option maxHeartbeats 2000000 in
theorem law1 {w : World} {p : Program} {loose : List Str} {mean : ExcName → Option Value} {mg mb : Str → Option Value}
    {dp un : Nat} {gd : Option (List Code)} {fa cT sc : Addr} {cd : Value} {outer : List Env} {A₀ : Around} {base h₀ : Heap} {L : Addr} {m : Str → Option Value} {s : Shared} {Q : Flow → Shared → Prop} {E : Value → Shared → Prop}
    {oT : Obj} {us : List Value} {ns : List Int} {Z0 : Led}
    (AT : At w p loose mean mg mb (fnScope lawDef) outer A₀ base h₀ L m s.heap ((cT, oT) :: Z0))
    (hm1 : m (Str.ofString "script") = some (.ref sc)) (hl : h₀.IsList sc us.toArray) (hi : IntsAre us ns) (hlen : ns.length ≤ 63)
    (hdp : dp + 60 < recursionLimit) (hun : un + 600 < cLine)
    (K : ∀ (vs ws : List Value) (nv nn nD : Nat) (k' : Int) (t' : Tok) (tl : Led) (xs : List Span) (sp st D : Addr) m' h' tk', vs.length ≤ 5 → 1 ≤ vs.length → 0 ≤ k' → k' ≤ 26 → IntsAre ws (ns.take 30) → m' (Str.ofString "state") = some (.ref st) → m' (Str.ofString "spans") = some (.ref sp) → DatAll tl vs (xs.map spanD) → (∀ x ∈ xs, spanOk x = true) →
      (∀ p ∈ Z0, p.1 < D) → @LT.lt Nat _ cT D → @LT.lt Nat _ D st → @LT.lt Nat _ st sp → (∀ p ∈ tl, @LT.lt Nat _ sp p.1) →
      Fr h₀ L h' m' → News h₀ L h' ((sp, listOf vs.toArray nv) :: (st, listOf #[.ref D, .int k' t'] nn) :: (D, listOf ws.toArray nD) :: (tl ++ (cT, oT) :: Z0)) →
      wpAny (model PySem.Challenge.rw_ej5023_01.row.prog w) (ktrTop dp un gd lawQ (fnScope lawDef) L fa cd [(tx, cT)] outer) (execs ((fnBody lawDef).drop 3) (envX lawQ (fnScope lawDef) L fa cd [(tx, cT)])) Q E { s with heap := h', toks := tk' })
    (hE : PassesOwn (model PySem.Challenge.rw_ej5023_01.row.prog w) (ktrTop dp un gd lawQ (fnScope lawDef) L fa cd [(tx, cT)] outer) (envX lawQ (fnScope lawDef) L fa cd [(tx, cT)]) E) :
    wpAny (model PySem.Challenge.rw_ej5023_01.row.prog w) (ktrTop dp un gd lawQ (fnScope lawDef) L fa cd [(tx, cT)] outer) (execs (fnBody lawDef) (envX lawQ (fnScope lawDef) L fa cd [(tx, cT)])) Q E s := by
  obtain ⟨B, F, X, T, hk, N, C1, C2, C3⟩ := AT
  w_top off; revert X; k_fill; intro X
  conv in fnBody lawDef => whnf
  repeat' ((fail_if_success (with_reducible show wpAny _ _ (exec (Stmt.For _ _ _ _ _) _) _ _ _)); first | (k_unfold; (try dsimp only)) | (k_end; wrow_close) | walk1 | (dsimp only; walk1) | (leave1; walk_say "STEP leave1"; try dsimp only) | fail "no step")
  (rename Fr h₀ L _ _ => F1)
  (with_unfolding_all refine' For_invVF F1 ?k1 ?k2 ?_ (hE := hE); (case k1 => exact rfl); (case k2 => exact rfl))
  have hl30 : (List.take 30 ns).length ≤ 63 := by rw [List.length_take]; omega
  repeat' ((fail_if_success (with_reducible show wpAny _ _ (pyIter _) _ _ _)); first | (k_unfold; (try dsimp only)) | (k_end; wrow_close) | walk1 | (dsimp only; walk1) | (leave1; walk_say "STEP leave1"; try dsimp only) | fail "no step")
  all_goals (
    (rename Fr h₀ L _ _ => F9)
    (rename News h₀ L _ (_ :: _ :: _) => N9)
    (rename IsRange _ _ _ _ _ _ _ _ => hr9)
    (rename IntsAre _ (List.take 30 ns) => hi9)
    (rename (_ ∧ _ ∧ _ ∧ AllLt _ Z0) => q1)
    (rename (_ ∧ _ ∧ AllLt _ Z0) => q2)
    (rename (_ ∧ AllLt _ Z0) => q3)
    have hz9 := allLt_mem q3.2)
  all_goals (first
    | (exfalso; omega)
    | (refine law1_loop (n := 5) (s := { s with heap := _, toks := _ }) ⟨B, F9, X, T, hk, N9, C1, C2, C3⟩ hr9 (by omega) (by decide) (by decide) rfl rfl hi9 hl30 (by omega) (by omega) q2.1 q1.1 q3.1 hz9 (by omega) (by omega) ?_)
    | (refine law1_loop (n := 4) (s := { s with heap := _, toks := _ }) ⟨B, F9, X, T, hk, N9, C1, C2, C3⟩ hr9 (by omega) (by decide) (by decide) rfl rfl hi9 hl30 (by omega) (by omega) q2.1 q1.1 q3.1 hz9 (by omega) (by omega) ?_)
    | (refine law1_loop (n := 3) (s := { s with heap := _, toks := _ }) ⟨B, F9, X, T, hk, N9, C1, C2, C3⟩ hr9 (by omega) (by decide) (by decide) rfl rfl hi9 hl30 (by omega) (by omega) q2.1 q1.1 q3.1 hz9 (by omega) (by omega) ?_)
    | (refine law1_loop (n := 2) (s := { s with heap := _, toks := _ }) ⟨B, F9, X, T, hk, N9, C1, C2, C3⟩ hr9 (by omega) (by decide) (by decide) rfl rfl hi9 hl30 (by omega) (by omega) q2.1 q1.1 q3.1 hz9 (by omega) (by omega) ?_)
    | (refine law1_loop (n := 1) (s := { s with heap := _, toks := _ }) ⟨B, F9, X, T, hk, N9, C1, C2, C3⟩ hr9 (by omega) (by decide) (by decide) rfl rfl hi9 hl30 (by omega) (by omega) q2.1 q1.1 q3.1 hz9 (by omega) (by omega) ?_)
    )
  all_goals (
    intro vs nv k' t' tl xs m' h' tk' a1 a2 a3 a4 a5 a6 a7 a8 F8 N8
    exact K vs _ nv _ _ k' t' tl xs _ _ _ m' h' tk' (by omega) (by omega) a2 a3 hi9 a4 a5 a6 a7 hz9 q3.1 q2.1 q1.1 (fun q hq => (a8 q hq).1) F8 N8)

def isSep (x : Str) : Prop := x = Str.ofString "," ∨ x = Str.ofString ", " ∨ x = Str.ofString " , "
set_option maxHeartbeats 2000000 in
theorem law2 {w : World} {p : Program} {loose : List Str} {mean : ExcName → Option Value} {mg mb : Str → Option Value}
    {dp un : Nat} {gd : Option (List Code)} {fa cT : Addr} {cd : Value} {outer : List Env} {A₀ : Around} {base h₀ : Heap} {L : Addr} {m : Str → Option Value} {s : Shared} {Q : Flow → Shared → Prop} {E : Value → Shared → Prop}
    {oT : Obj} {vs ws : List Value} {ns : List Int} {nv nn nD : Nat} {k : Int} {t : Tok} {tl Z0 : Led} {xs : List Span} {sp st D : Addr}
    (AT : At w p loose mean mg mb (fnScope lawDef) outer A₀ base h₀ L m s.heap ((sp, listOf vs.toArray nv) :: (st, listOf #[.ref D, .int k t] nn) :: (D, listOf ws.toArray nD) :: (tl ++ (cT, oT) :: Z0)))
    (hvs : vs.length ≤ 5) (hvs1 : 1 ≤ vs.length) (hk0 : 0 ≤ k) (hk1 : k ≤ 26) (hi : IntsAre ws ns) (hlen : ns.length ≤ 63)
    (hm1 : m (Str.ofString "state") = some (.ref st)) (hm2 : m (Str.ofString "spans") = some (.ref sp)) (hD : DatAll tl vs (xs.map spanD)) (hok : ∀ x ∈ xs, spanOk x = true)
    (hz9 : ∀ p ∈ Z0, p.1 < D) (h1 : @LT.lt Nat _ cT D) (h2 : @LT.lt Nat _ D st) (h3 : @LT.lt Nat _ st sp) (htl : ∀ p ∈ tl, @LT.lt Nat _ sp p.1)
    (hdp : dp + 60 < recursionLimit) (hun : un + 600 < cLine)
    (K : ∀ sep ts stop stopE t1 t2 m' h' tk', isSep sep → 1 ≤ stop → stop ≤ 7 → 1 ≤ stopE → stopE ≤ 11 → m' (Str.ofString "spans") = some (.ref sp) → m' (Str.ofString "between") = some (.str sep ts) → m' (Str.ofString "stop") = some (.int stop t1) → m' (Str.ofString "stop_ends") = some (.int stopE t2) →
      Fr h₀ L h' m' → News h₀ L h' ((sp, listOf vs.toArray nv) :: (tl ++ (cT, oT) :: Z0)) →
      wpAny (model PySem.Challenge.rw_ej5023_01.row.prog w) (ktrTop dp un gd lawQ (fnScope lawDef) L fa cd [(tx, cT)] outer) (execs ((fnBody lawDef).drop 5) (envX lawQ (fnScope lawDef) L fa cd [(tx, cT)])) Q E { s with heap := h', toks := tk' }) :
    wpAny (model PySem.Challenge.rw_ej5023_01.row.prog w) (ktrTop dp un gd lawQ (fnScope lawDef) L fa cd [(tx, cT)] outer) (execs ((fnBody lawDef).drop 3) (envX lawQ (fnScope lawDef) L fa cd [(tx, cT)])) Q E s := by
  obtain ⟨B, F, X, T, hk, N, C1, C2, C3⟩ := AT
  w_top off; revert X; k_fill; intro X
  have n1 : ∀ p ∈ tl ++ (cT, oT) :: Z0, p.1 ≠ st := by
    intro q hq
    simp only [List.mem_append, List.mem_cons] at hq
    rcases hq with hq | rfl | hq
    · exact Nat.ne_of_gt (Nat.lt_trans h3 (htl q hq))
    · exact Nat.ne_of_lt (Nat.lt_trans h1 h2)
    · exact Nat.ne_of_lt (Nat.lt_trans (hz9 q hq) h2)
  conv in (fnBody lawDef).drop 3 => whnf
  repeat' ((fail_if_success (with_reducible show wpAny _ _ (subscriptTail _ _ _ _) _ _ _)); first | (k_unfold; (try dsimp only)) | (k_end; wrow_close) | walk1 | (dsimp only; walk1) | (leave1; walk_say "STEP leave1"; try dsimp only) | fail "no step")
  (rename Int => v9)
  (rename v9 < 3 => hv9)
  obtain rfl | rfl | rfl : v9 = 0 ∨ v9 = 1 ∨ v9 = 2 := by omega
  all_goals repeat' ((fail_if_success (with_reducible show wpAny _ _ (execs (Stmt.Assign _ (Expr.ListComp _ _ _ _) _ :: _) _) _ _ _)); first | (k_unfold; (try dsimp only)) | (k_end; wrow_close) | walk1 | (dsimp only; walk1) | (leave1; walk_say "STEP leave1"; try dsimp only) | fail "no step")
  all_goals (
    (rename News h₀ L _ _ => N9)
    (rename Fr h₀ L _ _ => F9))
  · refine' K _ _ _ _ _ _ _ _ _ (.inl rfl) ?a0 ?b0 ?c0 ?d0 ?e0 ?f0 ?g0 ?h0 F9 (news_sub N9 ?i0)
    case e0 => exact hm2
    case f0 => exact rfl
    case g0 => exact rfl
    case h0 => exact rfl
    case a0 => omega
    case b0 => omega
    case c0 => omega
    case d0 => omega
    case i0 =>
      intro q hq
      rcases List.mem_cons.mp hq with rfl | hq
      · repeat (first | exact .head _ | apply List.Mem.tail)
      · repeat (first | exact hq | apply List.Mem.tail)
  · refine' K _ _ _ _ _ _ _ _ _ (.inr (.inl rfl)) ?a1 ?b1 ?c1 ?d1 ?e1 ?f1 ?g1 ?h1 F9 (news_sub N9 ?i1)
    case e1 => exact hm2
    case f1 => exact rfl
    case g1 => exact rfl
    case h1 => exact rfl
    case a1 => omega
    case b1 => omega
    case c1 => omega
    case d1 => omega
    case i1 =>
      intro q hq
      rcases List.mem_cons.mp hq with rfl | hq
      · repeat (first | exact .head _ | apply List.Mem.tail)
      · repeat (first | exact hq | apply List.Mem.tail)
  · refine' K _ _ _ _ _ _ _ _ _ (.inr (.inr rfl)) ?a2 ?b2 ?c2 ?d2 ?e2 ?f2 ?g2 ?h2 F9 (news_sub N9 ?i2)
    case e2 => exact hm2
    case f2 => exact rfl
    case g2 => exact rfl
    case h2 => exact rfl
    case a2 => omega
    case b2 => omega
    case c2 => omega
    case d2 => omega
    case i2 =>
      intro q hq
      rcases List.mem_cons.mp hq with rfl | hq
      · repeat (first | exact .head _ | apply List.Mem.tail)
      · repeat (first | exact hq | apply List.Mem.tail)

def tComp : Expr × Scope := listCompOf (nthS (fnBody lawDef) 5)
theorem text_eq (x : Span) : (⟨#[x.b0]⟩ ++ x.lo ++ Str.ofString "," ++ x.hi ++ ⟨#[x.b1]⟩ : Str) = x.text := by
  apply str_ext
  rw [text_list, codes_eq]
  simp only [cat_list, cps_comma, Span.mid]
  simp
set_option maxHeartbeats 1000000 in
theorem t_turn {w : World} {p : Program} {loose : List Str} {mean : ExcName → Option Value} {mg mb : Str → Option Value}
    {dp un : Nat} {gd : Option (List Code)} {fa cT : Addr} {cd : Value} {outer : List Env} {A₀ : Around} {base h₀ : Heap} {L : Addr} {m : Str → Option Value} {s : Shared} {Q E : Value → Shared → Prop}
    {x : Span} {tb t1 t2 : Tok} {Z : Led} {C : Addr} {oC : Obj} {m₂ : Str → Option Value} {clc : List (Str × Addr)}
    (AT : At w p loose mean mg mb (fnScope lawDef) outer A₀ base h₀ L m s.heap Z) (hC : (C, oC) ∈ Z) (hoC : LCg.NsObj oC m₂)
    (hv1 : m₂ (Str.ofString "bounds") = some (.str ⟨#[x.b0, x.b1]⟩ tb)) (hv2 : m₂ (Str.ofString "low") = some (.str x.lo t1)) (hv3 : m₂ (Str.ofString "high") = some (.str x.hi t2)) (hx : spanOk x = true)
    (hdp : dp + 1 < recursionLimit) (hun : un + 8 < cLine)
    (K : ∀ t tk', Q (.str x.text t) { s with toks := tk' }) :
    wpAny (model PySem.Challenge.rw_ej5023_01.row.prog w) (ktrTop dp un gd lawQ (fnScope lawDef) L fa cd [(tx, cT)] outer)
      (eval tComp.1 (compEnvC tComp.2 clc C (envX lawQ (fnScope lawDef) L fa cd [(tx, cT)]))) Q E s := by
  obtain ⟨B, F, X, T, hk, N, C1, C2, C3⟩ := AT
  w_top off; revert X; k_fill; intro X
  obtain ⟨_, _, e1, e2⟩ := ok_parts hx
  have z1 : x.lo.length ≤ 16 := by have := end_len e1; rwa [Array.length_toList] at this
  have z2 : x.hi.length ≤ 16 := by have := end_len e2; rwa [Array.length_toList] at this
  conv in tComp.1 => whnf
  conv in tComp.2 => whnf
  repeat' ((fail_if_success (with_reducible show wpAny _ _ (subscriptTail _ _ _ _) _ _ _)); first | (k_unfold; (try dsimp only)) | (k_end; wrow_close) | walk1 | (dsimp only; walk1) | (leave1; walk_say "STEP leave1"; try dsimp only) | fail "no step")
  refine item_str (by decide) (show -((2 : Nat) : Int) ≤ 0 from by decide) (show (0 : Int) < ((2 : Nat) : Int) from by decide) fun _ => ?_
  rw [show Txt.item ⟨#[x.b0, x.b1]⟩ 0 = ⟨#[x.b0]⟩ from rfl]
  repeat' ((fail_if_success (with_reducible show wpAny _ _ (subscriptTail _ _ _ _) _ _ _)); first | (k_unfold; (try dsimp only)) | (k_end; wrow_close) | walk1 | (dsimp only; walk1) | (leave1; walk_say "STEP leave1"; try dsimp only) | fail "no step")
  refine item_str (by decide) (show -((2 : Nat) : Int) ≤ 1 from by decide) (show (1 : Int) < ((2 : Nat) : Int) from by decide) fun _ => ?_
  rw [show Txt.item ⟨#[x.b0, x.b1]⟩ 1 = ⟨#[x.b1]⟩ from rfl]
  k_steps
  (rw [text_eq]; exact K _ _)
theorem span_parts {tl : Led} {v : Value} {x : Span} (h : DatIn tl v (spanD x)) :
    ∃ (t : Addr) (n : Nat) (t1 t2 t3 : Tok), v = .ref t ∧ (t, ({ cls := .type "tuple", data := .seq #[.str ⟨#[x.b0, x.b1]⟩ t1, .str x.lo t2, .str x.hi t3] n } : Obj)) ∈ tl := by
  unfold spanD at h
  cases h with
  | tuple hm r =>
    cases r with
    | cons h1 r =>
      cases h1
      cases r with
      | cons h2 r =>
        cases h2
        cases r with
        | cons h3 r =>
          cases h3
          cases r
          exact ⟨_, _, _, _, _, rfl, hm⟩
theorem texts_sum : ∀ {xs : List Span}, (∀ x ∈ xs, spanOk x = true) → ((xs.map Span.text).map (·.length)).sum ≤ 35 * xs.length
  | [], _ => by simp
  | x :: xs, h => by
    have h1 := text_le (h x (.head _))
    have h2 := texts_sum (xs := xs) fun y hy => h y (.tail _ hy)
    simp only [List.map_cons, List.sum_cons, List.length_cons]
    omega
theorem off1_mem {D : Addr} : ∀ {l : Led}, LCg.Off1 D l → ∀ p ∈ l, p.1 ≠ D
  | [], _, p, hp => nomatch hp
  | q :: l, h, p, hp => by
    rcases List.mem_cons.mp hp with rfl | hp
    · exact h.1
    · exact off1_mem h.2 p hp
theorem sep_len {sep : Str} (h : isSep sep) : sep.length ≤ 3 := by
  rcases h with rfl | rfl | rfl <;> decide +kernel
/-- what holds between the turns of the texts' comprehension -/
def textsJ (tl Z0 : Led) (sp cT : Addr) (oT : Obj) (vs : List Value) (nv : Nat) (xs : List Span) (i : Nat) (ys : List Value) (nx : Led) : Prop :=
  nx = (cT, oT) :: (sp, listOf vs.toArray nv) :: (tl ++ Z0) ∧ StrsAre ys ((xs.take i).map Span.text)
set_option maxHeartbeats 2000000 in
theorem law3 {w : World} {p : Program} {loose : List Str} {mean : ExcName → Option Value} {mg mb : Str → Option Value}
    {dp un : Nat} {gd : Option (List Code)} {fa cT : Addr} {cd : Value} {outer : List Env} {A₀ : Around} {base h₀ : Heap} {L : Addr} {m : Str → Option Value} {s : Shared} {Q : Flow → Shared → Prop} {E : Value → Shared → Prop}
    {oT : Obj} {vs : List Value} {nv : Nat} {tl Z0 : Led} {xs : List Span} {sp : Addr} {sep : Str} {ts : Tok}
    (AT : At w p loose mean mg mb (fnScope lawDef) outer A₀ base h₀ L m s.heap ((sp, listOf vs.toArray nv) :: (tl ++ (cT, oT) :: Z0)))
    (hvs : vs.length ≤ 5) (hvs1 : 1 ≤ vs.length) (hsep : isSep sep)
    (hm2 : m (Str.ofString "spans") = some (.ref sp)) (hm3 : m (Str.ofString "between") = some (.str sep ts)) (hD : DatAll tl vs (xs.map spanD)) (hok : ∀ x ∈ xs, spanOk x = true)
    (hz9 : ∀ p ∈ Z0, p.1 ≠ cT) (h1 : @LT.lt Nat _ cT sp) (htl : ∀ p ∈ tl, @LT.lt Nat _ sp p.1) (hoT : oT.data = .cell none)
    (hdp : dp + 60 < recursionLimit) (hun : un + 600 < cLine)
    (K : ∀ (data : Str) (ys : List Value) (Dt : Addr) (oT' : Obj) tt m' h' tk', data = Str.ofString "{" ++ Txt.join sep (xs.map Span.text) ++ Str.ofString "}" → StrsAre ys (xs.map Span.text) → oT'.data = .cell (some (.ref Dt)) → m' (Str.ofString "text") = some (.str data tt) → (∀ y, y ≠ Str.ofString "text" → m' y = m y) →
      (∀ p ∈ tl ++ Z0, p.1 ≠ Dt) → @Ne Nat Dt cT → @Ne Nat Dt sp → Fr h₀ L h' m' → News h₀ L h' ((cT, oT') :: (Dt, LCg.lst ys) :: (sp, listOf vs.toArray nv) :: (tl ++ Z0)) →
      wpAny (model PySem.Challenge.rw_ej5023_01.row.prog w) (ktrTop dp un gd lawQ (fnScope lawDef) L fa cd [(tx, cT)] outer) (execs ((fnBody lawDef).drop 7) (envX lawQ (fnScope lawDef) L fa cd [(tx, cT)])) Q E { s with heap := h', toks := tk' }) :
    wpAny (model PySem.Challenge.rw_ej5023_01.row.prog w) (ktrTop dp un gd lawQ (fnScope lawDef) L fa cd [(tx, cT)] outer) (execs ((fnBody lawDef).drop 5) (envX lawQ (fnScope lawDef) L fa cd [(tx, cT)])) Q E s := by
  obtain ⟨B, F, X, T, hk, N, C1, C2, C3⟩ := AT
  w_top off; revert X; k_fill; intro X
  have N0 : News h₀ L s.heap ((cT, oT) :: (sp, listOf vs.toArray nv) :: (tl ++ Z0)) := news_sub N fun q hq => by
    simp only [List.mem_append, List.mem_cons] at hq ⊢
    rcases hq with h | h | h | h
    · exact .inr (.inr (.inl h))
    · exact .inl h
    · exact .inr (.inl h)
    · exact .inr (.inr (.inr h))
  clear N
  have n1 : ∀ p ∈ tl ++ Z0, p.1 ≠ cT := fun q hq => (List.mem_append.mp hq).elim (fun h => Nat.ne_of_gt (Nat.lt_trans h1 (htl q h))) (hz9 q)
  conv in (fnBody lawDef).drop 5 => whnf
  repeat' ((fail_if_success (with_reducible show wpAny _ _ (exec (Stmt.Assign _ (Expr.ListComp _ _ _ _) _) _) _ _ _)); first | (k_unfold; (try dsimp only)) | walk1 | (dsimp only; walk1) | fail "no step")
  refine wpAny_Assign_Name ?_
  refine comp_t (base := base) (h₀ := h₀) (L := L) (outer := outer) F rfl rfl rfl rfl (by decide) rfl (by decide) rfl rfl rfl (by decide) (by decide) (by decide) ?_
  repeat' ((fail_if_success (with_reducible show CompAtT _ _ _ _ _ _ _ _ _ _ _ _ _ _ _ _ _ _ _)); first | (k_unfold; (try dsimp only)) | (k_end; wrow_close) | walk1 | (dsimp only; walk1) | (leave1; walk_say "STEP leave1"; try dsimp only) | fail "no step")
  have hlen : xs.length = vs.length := by rw [hD.length, List.length_map]
  refine ⟨sp, vs.toArray, nv, _, textsJ tl Z0 sp cT oT vs nv xs, fun _ => False, rfl, F, N0, ?_, by rw [List.size_toArray, PySem.sizeLine_eq]; omega, ⟨rfl, .nil⟩, ?_, ?_, fun _ _ _ _ _ hf => hf.elim⟩
  · rintro i ys nx ⟨rfl, _⟩
    exact .tail _ (.head _)
  · rintro i v ys nx hi ⟨rfl, hJ⟩
    have hi1 : i < vs.length := by
      have h5 : i < vs.toArray.size := (Array.getElem?_eq_some_iff.mp hi).1
      rwa [List.size_toArray] at h5
    have hi2 : i < (xs.map spanD).length := by rw [List.length_map]; omega
    obtain ⟨v', hv', hd⟩ := hD.get hi2
    have hvv : v' = v := by
      have h5 : vs[i]? = some v := by rw [← hi]; simp
      rw [h5] at hv'
      exact (Option.some.inj hv').symm
    subst hvv
    rw [List.getElem_map] at hd
    obtain ⟨t, n, t1, t2, t3, rfl, hmt⟩ := span_parts hd
    have hix : i < xs.length := by omega
    refine ⟨t, _, _, _, _, n, rfl, .tail _ (.tail _ (List.mem_append_left _ hmt)), rfl, rfl, ?_⟩
    intro I oI C oC D m₂ h tk hoC hv1 hv2 hv3 F4 N4 off4 ne3
    refine t_turn (x := xs[i]) ⟨B, F4, X, T, hk, N4, C1, C2, C3⟩ (.tail _ (.head _)) hoC hv1 hv2 hv3 (hok _ (List.getElem_mem hix)) (by omega) (by omega) fun t' tk' => ?_
    refine ⟨h, tk', _, rfl, F4, N4, off4, rfl, ?_⟩
    rw [List.take_add_one, List.getElem?_eq_getElem hix, List.map_append]
    exact hJ.append' (.cons _ _ .nil)
  · rintro D h tk ys nx hJ F4 N4 off4
    rw [List.size_toArray, ← hlen] at hJ
    obtain ⟨rfl, hJ⟩ := hJ
    rw [List.take_of_length_le (Nat.le_refl _)] at hJ
    have oD1 : @Ne Nat D cT := Ne.symm off4.1
    have oD2 : @Ne Nat D sp := Ne.symm off4.2.1
    have oD3 : ∀ p ∈ tl ++ Z0, p.1 ≠ D := off1_mem off4.2.2
    clear N0
    repeat' ((fail_if_success (with_reducible show wpAny _ _ (call (Value.builtin "str.join") _ _) _ _ _)); first | (k_unfold; (try dsimp only)) | (k_end; wrow_close) | walk1 | (dsimp only; walk1) | (leave1; walk_say "STEP leave1"; try dsimp only) | fail "no step")
    have hsum := texts_sum hok
    have hsl := sep_len hsep
    (rename News h₀ L _ _ => N9)
    have hIL : Heap.IsList _ D ys.toArray := ⟨_, (N9 _ (.head _)).1, rfl, _, rfl⟩
    refine join_listW (ys := xs.map Span.text) hIL (by simpa using hJ) (by omega) (by rw [List.length_map]; omega) fun t' k' => ?_
    have hjl : (Txt.join sep (xs.map Span.text)).length ≤ 300 := by
      have h9 := StrLaws.join_length_le sep (xs.map Span.text)
      have h8 : (Txt.join sep (xs.map Span.text)) = Str.join sep (xs.map Span.text) := StrLaws.glued_eq_join _ _
      have h7 : (xs.map Span.text).length * sep.length ≤ 5 * 3 := Nat.mul_le_mul (by rw [List.length_map]; omega) hsl
      rw [h8]; omega
    repeat' ((fail_if_success (with_reducible show wpAny _ _ (execs (Stmt.Assign _ (Expr.List _ _) _ :: _) _) _ _ _)); first | (k_unfold; (try dsimp only)) | (k_end; wrow_close) | walk1 | (dsimp only; walk1) | (leave1; walk_say "STEP leave1"; try dsimp only) | fail "no step")
    (rename News h₀ L _ _ => N10)
    (rename Fr h₀ L _ _ => F10)
    refine K _ ys D _ _ _ _ _ rfl hJ (by assumption) rfl (fun y hy => if_neg hy) oD3 oD1 oD2 F10 (news_sub N10 fun q hq => ?_)
    simp only [List.mem_append, List.mem_cons] at hq ⊢
    rcases hq with h | h | h | h
    · exact .inr (.inl h)
    · exact .inl h
    · exact .inr (.inr (.inl h))
    · exact .inr (.inr (.inr h))

theorem fold_quiet : ∀ (l : List Nat) (d : List (List Nat)), (∀ c ∈ l, isOpen c = false) → l.foldl scanStep (false, [], d) = (false, [], d)
  | [], _, _ => rfl
  | c :: l, d, h => by
    rw [List.foldl_cons, step_f, if_neg (by rw [h c (.head _)]; decide)]
    exact fold_quiet l d fun x hx => h x (.tail _ hx)
theorem fold_in : ∀ (l v : List Nat) (d : List (List Nat)), (∀ c ∈ l, isClose c = false) → l.foldl scanStep (true, v, d) = (true, v ++ l, d)
  | [], v, _, _ => by simp
  | c :: l, v, d, h => by
    rw [List.foldl_cons, step_t, if_neg (by rw [h c (.head _)]; decide), fold_in l (v ++ [c]) d fun x hx => h x (.tail _ hx)]
    simp
theorem fold_span {x : Span} (hx : spanOk x = true) (d : List (List Nat)) : x.codes.foldl scanStep (false, [], d) = (false, [], d ++ [x.codes]) := by
  obtain ⟨h0, h1, h2, h3⟩ := ok_parts hx
  have hm : ∀ c ∈ x.mid, isClose c = false := by
    intro c hc
    unfold Span.mid at hc
    unfold isClose
    rcases List.mem_append.mp hc with hc | hc
    · have := end_signs h2 c hc
      simp only [Bool.or_eq_false_iff, beq_eq_false_iff_ne]; omega
    · rcases List.mem_cons.mp hc with rfl | hc
      · decide
      · have := end_signs h3 c hc
        simp only [Bool.or_eq_false_iff, beq_eq_false_iff_ne]; omega
  have ho : isOpen x.b0 = true := by unfold isOpen; rcases h0 with h | h <;> rw [h] <;> decide
  have hc : isClose x.b1 = true := by unfold isClose; rcases h1 with h | h <;> rw [h] <;> decide
  rw [codes_eq, List.foldl_cons, step_f, if_pos ho, List.foldl_append, fold_in _ _ _ hm, List.foldl_cons, List.foldl_nil, step_t, if_pos hc]
  simp
theorem fold_join {sep : Str} (hs : ∀ c ∈ sep.cps.toList, isOpen c = false) : ∀ (xs : List Span) (d : List (List Nat)), (∀ x ∈ xs, spanOk x = true) →
    (Str.join sep (xs.map Span.text)).cps.toList.foldl scanStep (false, [], d) = (false, [], d ++ xs.map Span.codes)
  | [], d, _ => by simp [Str.join, Str.empty]
  | [x], d, h => by
    simp only [List.map_cons, List.map_nil, Str.join]
    rw [text_list, fold_span (h x (.head _))]
  | x :: y :: r, d, h => by
    have ih := fold_join hs (y :: r) (d ++ [x.codes]) fun z hz => h z (.tail _ hz)
    simp only [List.map_cons, Str.join] at ih ⊢
    rw [cat_list, cat_list, List.foldl_append, List.foldl_append, text_list, fold_span (h x (.head _)), fold_quiet _ _ hs, ih]
    simp
theorem sep_quiet {sep : Str} (h : isSep sep) : ∀ c ∈ sep.cps.toList, isOpen c = false := by
  have h1 : (Str.ofString ",").cps.toList = [44] := by decide +kernel
  have h2 : (Str.ofString ", ").cps.toList = [44, 32] := by decide +kernel
  have h3 : (Str.ofString " , ").cps.toList = [32, 44, 32] := by decide +kernel
  rcases h with rfl | rfl | rfl
  · rw [h1]; decide
  · rw [h2]; decide
  · rw [h3]; decide
theorem scan_data {sep : Str} {xs : List Span} (h : isSep sep) (hok : ∀ x ∈ xs, spanOk x = true) :
    scan (Str.ofString "{" ++ Txt.join sep (xs.map Span.text) ++ Str.ofString "}" : Str).cps.toList = (false, [], xs.map Span.codes) := by
  have h1 : (Str.ofString "{").cps.toList = [123] := by decide +kernel
  have h2 : (Str.ofString "}").cps.toList = [125] := by decide +kernel
  have h8 : (Txt.join sep (xs.map Span.text)) = Str.join sep (xs.map Span.text) := StrLaws.glued_eq_join _ _
  unfold scan
  rw [h8, cat_list, cat_list, h1, h2, List.foldl_append, List.foldl_append, fold_quiet [123] [] (by decide), fold_join (sep_quiet h) xs [] hok, fold_quiet [125] _ (by decide)]
  simp
theorem scan_none : scan (Str.ofString "{}").cps.toList = (false, [], ([] : List Span).map Span.codes) := by
  have h1 : (Str.ofString "{}").cps.toList = [123, 125] := by decide +kernel
  rw [h1]; rfl
theorem data_len {sep : Str} {xs : List Span} (h : isSep sep) (hok : ∀ x ∈ xs, spanOk x = true) (hn : xs.length ≤ 5) : (Str.ofString "{" ++ Txt.join sep (xs.map Span.text) ++ Str.ofString "}" : Str).length ≤ 900 := by
  have hsum := texts_sum hok
  have hsl := sep_len h
  have h9 := StrLaws.join_length_le sep (xs.map Span.text)
  have h8 : (Txt.join sep (xs.map Span.text)) = Str.join sep (xs.map Span.text) := StrLaws.glued_eq_join _ _
  have h7 : (xs.map Span.text).length * sep.length ≤ 5 * 3 := Nat.mul_le_mul (by rw [List.length_map]; omega) hsl
  have h1 : (Str.ofString "{").length = 1 := by decide +kernel
  have h2 : (Str.ofString "}").length = 1 := by decide +kernel
  rw [Str.length_append, Str.length_append, h8, h1, h2]
  omega

theorem told_ok {xs : List Span} (hok : ∀ x ∈ xs, spanOk x = true) : ∀ d ∈ toldD Span.text xs, okB 6 d = true := by
  intro d hd
  unfold toldD at hd
  obtain ⟨q, hq, rfl⟩ := List.mem_map.mp hd
  have hx : q.1 ∈ xs := by
    obtain ⟨x, i⟩ := q
    exact List.fst_mem_of_mem_zipIdx hq
  simp [okB, text_ok (hok _ hx)]
theorem strs_ok {xs : List Span} (hok : ∀ x ∈ xs, spanOk x = true) : ∀ d ∈ (xs.map Span.text).map Dat.str, okB 6 d = true := by
  intro d hd
  simp only [List.map_map, List.mem_map] at hd
  obtain ⟨x, hx, rfl⟩ := hd
  simp [okB, text_ok (hok _ hx)]

/-- the comparison's two lists: what stands in the first told-test -/
def cmpOf : Stmt → Expr
  | .If t _ _ _ => t
  | _ => .Name (Str.ofString "v") ⟨0, 0, 0, 0⟩
def firstOf : Expr → Expr
  | .BoolOp _ (e :: _) _ => e
  | e => e
def compsOf : Expr → Expr
  | .Compare _ _ (e :: _) _ => e
  | e => e
def compPart : Expr → Expr × Scope
  | .ListComp e _ sc _ => (e, sc)
  | _ => (.Name (Str.ofString "v") ⟨0, 0, 0, 0⟩, { kind := .function, names := [], isGenerator := false, isCoroutine := false, more := [] })
def n1Comp : Expr := compsOf (firstOf (cmpOf (nthS (fnBody lawDef) 9)))
theorem strs_get : ∀ {vs : List Value} {ss : List Str} (_ : StrsAre vs ss) {i : Nat} (h : i < ss.length), ∃ t, vs[i]? = some (.str (ss[i]'h) t)
  | _, _, .nil, _, h => absurd h (Nat.not_lt_zero _)
  | _, _, .cons x t r, 0, _ => ⟨t, rfl⟩
  | _, _, .cons x t r, i + 1, h => strs_get r (Nat.lt_of_succ_lt_succ h)
set_option maxHeartbeats 1000000 in
theorem n1_turn {w : World} {p : Program} {loose : List Str} {mean : ExcName → Option Value} {mg mb : Str → Option Value}
    {dp un : Nat} {gd : Option (List Code)} {fa cT : Addr} {cd : Value} {outer : List Env} {A₀ : Around} {base h₀ : Heap} {L : Addr} {m : Str → Option Value} {s : Shared} {Q E : Value → Shared → Prop}
    {i : Nat} {ti : Tok} {Z : Led} {C Dt : Addr} {oC oT : Obj} {m₂ : Str → Option Value} {ys : List Value} {xs : List Span}
    (AT : At w p loose mean mg mb (fnScope lawDef) outer A₀ base h₀ L m s.heap Z) (hC : (C, oC) ∈ Z) (hoC : LCg.NsObj oC m₂) (hv : m₂ (Str.ofString "k") = some (.int ((i : Nat) : Int) ti))
    (hcT : (cT, oT) ∈ Z) (hoT : oT.data = .cell (some (.ref Dt))) (hDt : (Dt, LCg.lst ys) ∈ Z) (hys : StrsAre ys (xs.map Span.text)) (hi : i < xs.length) (hl : xs.length ≤ 5)
    (hdp : dp + 1 < recursionLimit) (hun : un + 8 < cLine)
    (K : ∀ r t1 t2 h' tk', (∀ z ∈ Z, z.1 < r) → Fr h₀ L h' m → News h₀ L h' ((r, { cls := .type "tuple", data := .seq #[.int (((i : Nat) : Int) + 1) t1, .str (xs[i]).text t2] }) :: Z) → Q (.ref r) { s with heap := h', toks := tk' }) :
    wpAny (model PySem.Challenge.rw_ej5023_01.row.prog w) (ktrTop dp un gd lawQ (fnScope lawDef) L fa cd [(tx, cT)] outer)
      (eval (compPart n1Comp).1 (compEnvC (compPart n1Comp).2 [(tx, cT)] C (envX lawQ (fnScope lawDef) L fa cd [(tx, cT)]))) Q E s := by
  obtain ⟨B, F, X, T, hk, N, C1, C2, C3⟩ := AT
  w_top off; revert X; k_fill; intro X
  conv in (compPart n1Comp).1 => whnf
  conv in (compPart n1Comp).2 => whnf
  repeat' ((fail_if_success (with_reducible show wpAny _ _ (subscriptTail _ _ _ _) _ _ _)); first | (k_unfold; (try dsimp only)) | (k_end; wrow_close) | walk1 | (dsimp only; walk1) | (leave1; walk_say "STEP leave1"; try dsimp only) | fail "no step")
  obtain ⟨tt, htt⟩ := strs_get hys (i := i) (by rw [List.length_map]; exact hi)
  rw [List.getElem_map] at htt
  have hIL : s.heap.IsList Dt ys.toArray := ⟨_, (N _ hDt).1, rfl, _, rfl⟩
  refine item_listL (x := .str (xs[i]).text tt) hIL (by omega) (by omega) (by rw [Int.toNat_natCast]; exact htt) ?_
  k_steps
  (rename News h₀ L _ _ => N12)
  (rename Fr h₀ L _ _ => F12)
  (rename (∀ p ∈ Z, p.1 < _) => lf)
  exact K _ _ _ _ _ lf F12 N12

/-- what holds between the turns of the numbered texts -/
def numJ (Z : Led) (xs : List Span) (i : Nat) (zs : List Value) (nx : Led) : Prop :=
  ∃ tl, nx = tl ++ Z ∧ DatAll tl zs (toldD Span.text (xs.take i)) ∧ ∀ p ∈ tl, ∀ z ∈ Z, z.1 < p.1
set_option maxHeartbeats 1000000 in
theorem n1_list {w : World} {p : Program} {loose : List Str} {mean : ExcName → Option Value} {mg mb : Str → Option Value}
    {dp un : Nat} {gd : Option (List Code)} {fa cT : Addr} {cd : Value} {outer : List Env} {A₀ : Around} {base h₀ : Heap} {L : Addr} {m : Str → Option Value} {s : Shared} {Q E : Value → Shared → Prop}
    {Z : Led} {Dt : Addr} {oT : Obj} {ys : List Value} {xs : List Span}
    (AT : At w p loose mean mg mb (fnScope lawDef) outer A₀ base h₀ L m s.heap Z)
    (hcT : (cT, oT) ∈ Z) (hoT : oT.data = .cell (some (.ref Dt))) (hDt : (Dt, LCg.lst ys) ∈ Z) (hys : StrsAre ys (xs.map Span.text)) (hl : xs.length ≤ 5)
    (hdp : dp + 20 < recursionLimit) (hun : un + 100 < cLine)
    (K : ∀ D zs tl h' tk', DatAll tl zs (toldD Span.text xs) → (∀ p ∈ tl, ∀ z ∈ Z, z.1 < p.1) → (∀ z ∈ Z, z.1 ≠ D) → Fr h₀ L h' m → News h₀ L h' ((D, LCg.lst zs) :: (tl ++ Z)) → Q (.ref D) { s with heap := h', toks := tk' }) :
    wpAny (model PySem.Challenge.rw_ej5023_01.row.prog w) (ktrTop dp un gd lawQ (fnScope lawDef) L fa cd [(tx, cT)] outer)
      (eval n1Comp (envX lawQ (fnScope lawDef) L fa cd [(tx, cT)])) Q E s := by
  obtain ⟨B, F, X, T, hk, N, C1, C2, C3⟩ := AT
  w_top off; revert X; k_fill; intro X
  conv in n1Comp => whnf
  refine comp_r (base := base) (h₀ := h₀) (L := L) (outer := outer) F rfl rfl rfl rfl (by decide) rfl (by decide) rfl ?_
  repeat' ((fail_if_success (with_reducible show wpAny _ _ (call (Value.builtin "len") _ _) _ _ _)); first | (k_unfold; (try dsimp only)) | (k_end; wrow_close) | walk1 | (dsimp only; walk1) | (leave1; walk_say "STEP leave1"; try dsimp only) | fail "no step")
  have hyl : ys.length = xs.length := by rw [hys.length, List.length_map]
  refine len_led N hDt (by omega) ?_
  repeat' ((fail_if_success (with_reducible show wpAny _ _ (call (Value.type "range") _ _) _ _ _)); first | (k_unfold; (try dsimp only)) | (k_end; wrow_close) | walk1 | (dsimp only; walk1) | (leave1; walk_say "STEP leave1"; try dsimp only) | fail "no step")
  rw [hyl]
  refine range1_rows (s := { s with toks := _ }) F N fun h1 k1 t₁ u₁ v₁ hr F1 N1 _ => ?_
  refine ⟨_, xs.length, t₁, u₁, v₁, Z, numJ Z xs, fun _ => False, rfl, F1, N1, hr, by omega, ⟨[], rfl, .nil, fun _ h => nomatch h⟩, ?_, ?_, fun _ _ _ _ _ hf => hf.elim⟩
  · rintro i v zs nx I oI C oC D m₂ h tk ⟨hi, t, rfl⟩ ⟨tl, rfl, j1, j2⟩ hoC hv F4 N4 off4 ne3
    have off4m := off4.mem
    have up : ∀ q ∈ Z, q ∈ (I, oI) :: (C, oC) :: (D, LCg.lst zs) :: (tl ++ Z) := fun q hq => .tail _ (.tail _ (.tail _ (List.mem_append_right _ hq)))
    refine n1_turn ⟨B, F4, X, T, hk, N4, C1, C2, C3⟩ (.tail _ (.head _)) hoC hv (up _ hcT) hoT (up _ hDt) hys hi hl (by omega) (by omega) ?_
    intro r t1 t2 h' tk' hr1 F5 N5
    refine ⟨h', tk', (r, { cls := .type "tuple", data := .seq #[.int (((i : Nat) : Int) + 1) t1, .str (xs[i]).text t2] }) :: (tl ++ Z), rfl, F5, news_sub N5 ?_, ?_, (r, { cls := .type "tuple", data := .seq #[.int (((i : Nat) : Int) + 1) t1, .str (xs[i]).text t2] }) :: tl, rfl, ?_, ?_⟩
    · intro q hq
      simp only [List.mem_cons] at hq ⊢
      rcases hq with h | h | h | h | h
      · exact .inr (.inl h)
      · exact .inr (.inr (.inl h))
      · exact .inr (.inr (.inr (.inl h)))
      · exact .inl h
      · exact .inr (.inr (.inr (.inr h)))
    · refine ⟨⟨?_, ?_, ?_⟩, off4⟩
      · exact Nat.ne_of_gt (hr1 _ (.head _))
      · exact Nat.ne_of_gt (hr1 _ (.tail _ (.head _)))
      · exact Nat.ne_of_gt (hr1 _ (.tail _ (.tail _ (.head _))))
    · rw [List.take_add_one, List.getElem?_eq_getElem hi]
      show DatAll _ _ (toldD Span.text (xs.take i ++ [xs[i]]))
      rw [toldD_snoc, List.length_take, Nat.min_eq_left (Nat.le_of_lt hi)]
      exact (j1.mono fun q hq => List.mem_cons_of_mem _ hq).append (.one (.tuple (vs := [.int (((i : Nat) : Int) + 1) t1, .str (xs[i]).text t2]) (.head _) (.cons (.int _ _) (.cons (.str _ _) .nil))))
    · intro q hq z hz
      rcases List.mem_cons.mp hq with rfl | hq
      · exact hr1 z (up z hz)
      · exact j2 q hq z hz
  · rintro D h tk zs nx ⟨tl, rfl, j1, j2⟩ F4 N4 off4
    rw [List.take_of_length_le (Nat.le_refl _)] at j1
    exact K D zs tl h tk j1 j2 (fun z hz => off1_mem off4 z (List.mem_append_right _ hz)) F4 N4

theorem rd_fn {Z : Led} {rd ha : Addr} {stop : Int} (h : RdIn Z rd ha stop) : ∃ qc qd fd qs, (rd, (⟨qc, qd, .func fd, qs⟩ : Obj)) ∈ Z := by
  obtain ⟨_, _, _, _, _, _, _, _, _, _, _, _, h1, _⟩ := h
  exact ⟨_, _, _, _, h1⟩
set_option maxHeartbeats 2000000 in
theorem law4 {w : World} {p : Program} {loose : List Str} {mean : ExcName → Option Value} {mg mb : Str → Option Value}
    {dp un : Nat} {gd : Option (List Code)} {fa cT : Addr} {cd : Value} {outer : List Env} {A₀ : Around} {base h₀ : Heap} {L : Addr} {m : Str → Option Value} {s : Shared} {Q : Flow → Shared → Prop} {E : Value → Shared → Prop}
    {o1 o2 o3 oT : Obj} {Dt : Addr} {ys : List Value} {Z : Led} {xs : List Span} {data : Str} {tt : Tok}
    (AT : At w p loose mean mg mb (fnScope lawDef) outer A₀ base h₀ L m s.heap (tabs o1 o2 o3 ++ Z)) (hT : Tab3 o1 o2 o3 Z)
    (hcT : (cT, oT) ∈ Z) (hoT : oT.data = .cell (some (.ref Dt))) (hDt : (Dt, LCg.lst ys) ∈ Z) (hys : StrsAre ys (xs.map Span.text)) (hl : xs.length ≤ 5) (hok : ∀ x ∈ xs, spanOk x = true)
    (hm1 : m (Str.ofString "text") = some (.str data tt)) (hscan : scan data.cps.toList = (false, [], xs.map Span.codes)) (hdl : data.length ≤ 900)
    (hdp : dp + 100 < recursionLimit) (hun : un + 1000 < cLine)
    (K : ∀ (Z' : Led) o1' o2' m' h' tk', (∀ q ∈ Z, q ∈ Z') → Tab3 o1' o2' o3 Z' → (∀ y, y ≠ Str.ofString "told" → y ≠ Str.ofString "heard" → m' y = m y) → Fr h₀ L h' m' → News h₀ L h' (tabs o1' o2' o3 ++ Z') →
      wpAny (model PySem.Challenge.rw_ej5023_01.row.prog w) (ktrTop dp un gd lawQ (fnScope lawDef) L fa cd [(tx, cT)] outer) (execs ((fnBody lawDef).drop 10) (envX lawQ (fnScope lawDef) L fa cd [(tx, cT)])) Q E { s with heap := h', toks := tk' }) :
    wpAny (model PySem.Challenge.rw_ej5023_01.row.prog w) (ktrTop dp un gd lawQ (fnScope lawDef) L fa cd [(tx, cT)] outer) (execs ((fnBody lawDef).drop 7) (envX lawQ (fnScope lawDef) L fa cd [(tx, cT)])) Q E s := by
  obtain ⟨B, F, X, T, hk, N, C1, C2, C3⟩ := AT
  obtain ⟨t1, t2, t3, tz⟩ := hT
  w_top off; revert X; k_fill; intro X
  conv in (fnBody lawDef).drop 7 => whnf
  repeat' ((fail_if_success (with_reducible show wpAny _ _ (call (Value.ref 92) _ _) _ _ _)); first | (k_unfold; (try dsimp only)) | (k_end; wrow_close) | walk1 | (dsimp only; walk1) | (leave1; walk_say "STEP leave1"; try dsimp only) | fail "no step")
  (rename Fr h₀ L _ _ => F1)
  (rename News h₀ L _ ((_, _) :: _) => N1)
  (rename (∀ p ∈ tabs o1 o2 o3 ++ Z, p.1 < _) => fr1)
  rename_i ha h1 h2
  have ha3 : ha ≠ 87 ∧ ha ≠ 64 ∧ ha ≠ 57 := ⟨Nat.ne_of_gt (fr1 _ (.head _)), Nat.ne_of_gt (fr1 _ (.tail _ (.head _))), Nat.ne_of_gt (fr1 _ (.tail _ (.tail _ (.head _))))⟩
  refine l92 (s := { s with heap := _, toks := _ }) ⟨B, F1, X, T, hk, N1, C1, C2, C3⟩ ⟨t1, t2, t3, tz⟩ ha3 (by omega) (by omega) ?_
  intro rd U1 o1' h3 k3 hrd hT1 fr2 F2 N2
  clear F1 N1
  repeat' ((fail_if_success (with_reducible show wpAny _ _ (call (Value.ref 69) _ _) _ _ _)); first | (k_unfold; (try dsimp only)) | (k_end; wrow_close) | walk1 | (dsimp only; walk1) | (leave1; walk_say "STEP leave1"; try dsimp only) | fail "no step")
  refine l69 (s := { s with heap := _, toks := _ }) ⟨B, F2, X, T, hk, N2, C1, C2, C3⟩ hT1 ha3 (by omega) (by omega) ?_
  intro f U2 o2' h4 k4 hM hT2 fr3 F3 N3
  clear F2 N2
  have hFf : FnAt f h4 := by
    obtain ⟨_, _, _, _, _, _, _, _, _, m1, _⟩ := hM
    exact FnAt.of N3 (.tail _ (List.mem_append_right _ m1))
  refine callWith_F hFf ?_
  repeat' ((fail_if_success (with_reducible show FnAt _ _ ∧ _)); first | (k_unfold; (try dsimp only)) | walk1 | (dsimp only; walk1) | fail "no step")
  refine ⟨hFf, ?_⟩
  have hrd2 : RdIn (U2 ++ (U1 ++ Z)) rd ha 0 := hrd.mono fun q hq => List.mem_append_right _ hq
  have hhaZ : ∀ p ∈ U2 ++ (U1 ++ Z), p.1 ≠ ha := by
    intro q hq
    rcases List.mem_append.mp hq with hq | hq
    · exact Nat.ne_of_gt (fr3 q hq _ (.head _))
    · rcases List.mem_append.mp hq with hq | hq
      · exact Nat.ne_of_gt (fr2 q hq _ (.head _))
      · exact Nat.ne_of_lt (fr1 q (List.mem_append_right _ hq))
  have hhaW : ∀ p ∈ tabs o1' o2' o3 ++ (U2 ++ (U1 ++ Z)), p.1 ≠ ha := by
    intro q hq
    simp only [List.mem_append, List.mem_cons, List.not_mem_nil, or_false] at hq
    rcases hq with (rfl | rfl | rfl) | hq
    · exact Ne.symm ha3.1
    · exact Ne.symm ha3.2.1
    · exact Ne.symm ha3.2.2
    · exact hhaZ q (by simpa only [List.mem_append] using hq)
  obtain ⟨qc, qd, fd, qs, hqf⟩ := rd_fn hrd2
  refine told_c (s := { s with heap := h4, toks := _ }) (Z := U2 ++ (U1 ++ Z)) (spans := xs) (Inv := LInv Span.text ha (U2 ++ (U1 ++ Z))) (d := 1) (u := 8) (qc := qc) (qd := qd) (fd := fd) (qs := qs) ⟨B, F3, X, T, hk, N3, C1, C2, C3⟩ hM hhaW (fun R ys vs h => ?_) (fun R ys vs h => ?_) ⟨[], [], 0, rfl, .nil, .nil, fun _ h => nomatch h⟩ (fun R ys vs h => ?_) (listener_rd Span.text spanOk 8 (by omega) hrd2 hhaZ) hscan hdl (by omega) hok (fun j hj => by simp; omega) (by omega) (by omega) ?_
  · obtain ⟨tl, hs, n, rfl, _⟩ := h
    exact .tail _ (List.mem_append_right _ hqf)
  · obtain ⟨tl, hs, n, rfl, _, hD, _⟩ := h
    rw [hD.length]; simp [toldD]
  · obtain ⟨tl, hs, n, rfl, _⟩ := h
    exact ⟨_, .head _⟩
  · rintro r vs R' n h5 k5 ⟨tl, hs, n', rfl, q1, q2, q3⟩ F4 N4 hr1 hr2
    have N5 : News h₀ L h5 (tabs o1' o2' o3 ++ ((r, listOf vs.toArray n) :: (ha, listOf hs.toArray n') :: (tl ++ (U2 ++ (U1 ++ Z))))) := news_sub N4 fun q hq => by
      simp only [List.mem_append, List.mem_cons, List.not_mem_nil, or_false] at hq ⊢
      rcases hq with h | h | h | h | h | h | h <;> simp [h]
    have hr87 : ∀ z ∈ tabs o1' o2' o3 ++ (U2 ++ (U1 ++ Z)), z.1 < r := fun z hz => hr2 z (.tail _ hz)
    have hT5 : Tab3 o1' o2' o3 ((r, listOf vs.toArray n) :: (ha, listOf hs.toArray n') :: (tl ++ (U2 ++ (U1 ++ Z)))) := by
      have upZ : ∀ q ∈ U2 ++ (U1 ++ Z), q ∈ (r, listOf vs.toArray n) :: (ha, listOf hs.toArray n') :: (tl ++ (U2 ++ (U1 ++ Z))) := fun q hq => .tail _ (.tail _ (List.mem_append_right _ hq))
      refine ⟨hT2.1.mono upZ, hT2.2.1.mono upZ, hT2.2.2.1.mono upZ, fun q hq => ?_⟩
      simp only [List.mem_cons, List.mem_append] at hq
      rcases hq with rfl | rfl | hq | hq
      · exact ⟨Nat.ne_of_gt (hr87 _ (.head _)), Nat.ne_of_gt (hr87 _ (.tail _ (.head _))), Nat.ne_of_gt (hr87 _ (.tail _ (.tail _ (.head _))))⟩
      · exact ha3
      · exact ⟨Nat.ne_of_gt (Nat.lt_trans (fr1 _ (.head _)) (q3 q hq)), Nat.ne_of_gt (Nat.lt_trans (fr1 _ (.tail _ (.head _))) (q3 q hq)), Nat.ne_of_gt (Nat.lt_trans (fr1 _ (.tail _ (.tail _ (.head _)))) (q3 q hq))⟩
      · exact hT2.2.2.2 q (by simpa only [List.mem_append] using hq)
    clear N4 hr1 hr2 hhaW hhaZ N3 F3 hrd hrd2 hM hT1 hT2
    generalize hZq : ((r, listOf vs.toArray n) :: (ha, listOf hs.toArray n') :: (tl ++ (U2 ++ (U1 ++ Z))) : Led) = Zq at N5 hT5
    have mR : (r, listOf vs.toArray n) ∈ Zq := by rw [← hZq]; exact .head _
    have mH : (ha, listOf hs.toArray n') ∈ Zq := by rw [← hZq]; exact .tail _ (.head _)
    have mT : ∀ q ∈ tl, q ∈ Zq := fun q hq => by rw [← hZq]; exact .tail _ (.tail _ (List.mem_append_left _ hq))
    have mZ : ∀ q ∈ Z, q ∈ Zq := fun q hq => by rw [← hZq]; exact .tail _ (.tail _ (List.mem_append_right _ (List.mem_append_right _ (List.mem_append_right _ hq))))
    clear hZq
    repeat' ((fail_if_success (with_reducible show wpAny _ _ (eval (Expr.ListComp _ _ _ _) _) _ _ _)); first | (k_unfold; (try dsimp only)) | (k_end; wrow_close) | walk1 | (dsimp only; walk1) | (leave1; walk_say "STEP leave1"; try dsimp only) | fail "no step")
    (rename Fr h₀ L _ _ => F6)
    (rename News h₀ L _ (tabs o1' o2' o3 ++ Zq) => N6)
    have inW : ∀ q ∈ Zq, q ∈ tabs o1' o2' o3 ++ Zq := fun q hq => List.mem_append_right _ hq
    have hokT : ∀ d ∈ toldD Span.text xs, okB 6 d = true := told_ok hok
    refine n1_list (s := { s with heap := _, toks := _ }) ⟨B, F6, X, T, hk, N6, C1, C2, C3⟩ (inW _ (mZ _ hcT)) hoT (inW _ (mZ _ hDt)) hys hl (by omega) (by omega) ?_
    intro D zs tl2 h7 k7 g1 g2 g3 F7 N7
    have in7 : ∀ q ∈ Zq, q ∈ (D, LCg.lst zs) :: (tl2 ++ (tabs o1' o2' o3 ++ Zq)) := fun q hq => .tail _ (List.mem_append_right _ (inW q hq))
    have hcT7 := in7 _ (mZ _ hcT)
    clear N6 F6
    repeat' ((fail_if_success (with_reducible show wpAny _ _ (compareOp _ (Value.ref _) (Value.ref _)) _ _ _)); (fail_if_success (with_reducible show wpAny _ _ (execs (Stmt.Assign _ (Expr.List _ _) _ :: _) _) _ _ _)); first | (k_unfold; (try dsimp only)) | (k_end; wrow_close) | walk1 | (dsimp only; walk1) | (leave1; walk_say "STEP leave1"; try dsimp only) | fail "no step")
    refine same_ne (s := { s with heap := h7, toks := _ }) N7 (in7 _ mR) q2 (fun q hq => in7 _ (mT q hq)) (.head _) g1 (fun q hq => .tail _ (List.mem_append_left _ hq)) hokT (by simp only []; omega) ?_
    repeat' ((fail_if_success (with_reducible show wpAny _ _ (compareOp _ (Value.ref _) (Value.ref _)) _ _ _)); (fail_if_success (with_reducible show wpAny _ _ (execs (Stmt.Assign _ (Expr.List _ _) _ :: _) _) _ _ _)); first | (k_unfold; (try dsimp only)) | (k_end; wrow_close) | walk1 | (dsimp only; walk1) | (leave1; walk_say "STEP leave1"; try dsimp only) | fail "no step")
    refine same_ne (s := { s with heap := h7, toks := _ }) N7 (in7 _ mH) (strs_dat q1) (fun q hq => nomatch hq) (in7 _ (mZ _ hDt)) (strs_dat hys) (fun q hq => nomatch hq) (strs_ok hok) (by simp only []; omega) ?_
    repeat' ((fail_if_success (with_reducible show wpAny _ _ (execs (Stmt.Assign _ (Expr.List _ _) _ :: _) _) _ _ _)); first | (k_unfold; (try dsimp only)) | (k_end; wrow_close) | walk1 | (dsimp only; walk1) | (leave1; walk_say "STEP leave1"; try dsimp only) | fail "no step")
    refine K Zq o1' o2' _ _ _ mZ hT5 (fun y e1 e2 => ?_) F7 (news_sub N7 fun q hq => .tail _ (List.mem_append_right _ hq))
    rw [if_neg e1, if_neg e2]

def l2Body : List Stmt := forBody (nthS (fnBody lawDef) 12)
/-- what the law holds due for a span, k ends heard before -/
def dueD (k : Nat) (x : Span) : Dat := Dat.tuple (marksD k x.sides ++ [.str ⟨#[x.b0, x.b1]⟩, .bool false])
def l3Body : List Stmt := forBody (nthS l2Body 1)
set_option maxHeartbeats 2000000 in
theorem l3_turn {w : World} {p : Program} {loose : List Str} {mean : ExcName → Option Value} {mg mb : Str → Option Value}
    {dp un : Nat} {gd : Option (List Code)} {fa cT : Addr} {cd : Value} {outer : List Env} {A₀ : Around} {base h₀ : Heap} {L : Addr} {m : Str → Option Value} {s : Shared} {Q : Flow → Shared → Prop} {E : Value → Shared → Prop}
    {mk en : Addr} {mvs evs : List Value} {nm ne : Nat} {Y : Led} {e : Str} {te : Tok}
    (AT : At w p loose mean mg mb (fnScope lawDef) outer A₀ base h₀ L m s.heap ((mk, listOf mvs.toArray nm) :: (en, listOf evs.toArray ne) :: Y))
    (hm1 : m (Str.ofString "end") = some (.str e te)) (hm2 : m (Str.ofString "marks") = some (.ref mk)) (hm3 : m (Str.ofString "ends") = some (.ref en)) (hes : evs.length ≤ 30) (hmv : mvs.length ≤ 20)
    (hne : @LT.lt Nat _ en mk) (hY1 : ∀ p ∈ Y, p.1 ≠ mk) (hY2 : ∀ p ∈ Y, p.1 ≠ en)
    (hdp : dp + 20 < recursionLimit) (hun : un + 200 < cLine)
    (K0 : (e == Str.ofString "") = true → ∀ h' tk', Fr h₀ L h' m → News h₀ L h' ((mk, listOf (mvs ++ [Value.none]).toArray (nm + 1)) :: (en, listOf evs.toArray ne) :: Y) → Q .next { s with heap := h', toks := tk' })
    (K1 : (e == Str.ofString "") = false → ∀ r t h' tk', (∀ z ∈ (mk, listOf mvs.toArray nm) :: (en, listOf evs.toArray ne) :: Y, z.1 < r) → Fr h₀ L h' m →
      News h₀ L h' ((r, { cls := .type "tuple", data := .seq #[.int ((evs.length : Int) + 1) t, .str e te] }) :: (mk, listOf (mvs ++ [Value.ref r]).toArray (nm + 1)) :: (en, listOf (evs ++ [Value.str e te]).toArray (ne + 1)) :: Y) → Q .next { s with heap := h', toks := tk' }) :
    wpAny (model PySem.Challenge.rw_ej5023_01.row.prog w) (ktrTop dp un gd lawQ (fnScope lawDef) L fa cd [(tx, cT)] outer) (execs l3Body (envX lawQ (fnScope lawDef) L fa cd [(tx, cT)])) Q E s := by
  obtain ⟨B, F, X, T, hk, N, C1, C2, C3⟩ := AT
  w_top off; revert X; k_fill; intro X
  conv in l3Body => whnf
  repeat' ((fail_if_success (with_reducible show wpAny _ _ (call (Value.builtin "len") _ _) _ _ _)); first | (k_unfold; (try dsimp only)) | (k_end; wrow_close) | walk1 | (dsimp only; walk1) | (leave1; walk_say "STEP leave1"; try dsimp only) | fail "no step")
  · (rename News h₀ L _ ((mk, _) :: _) => N9)
    simp only [List.push_toArray] at N9
    exact K0 (by assumption) _ _ (by assumption) N9
  · (rename News h₀ L _ ((mk, _) :: _) => N9)
    (rename Fr h₀ L _ _ => F9)
    simp only [List.push_toArray] at N9
    refine len_led N9 (.tail _ (.head _)) (by rw [List.length_append]; simp only [List.length_cons, List.length_nil]; omega) ?_
    k_steps
    (rename News h₀ L _ ((_, _) :: (mk, _) :: _) => N10)
    (rename Fr h₀ L _ _ => F10)
    (rename (_ ∧ _ ∧ AllLt _ Y) => lf)
    simp only [List.push_toArray] at N10
    rw [show (((evs ++ [Value.str e te]).length : Nat) : Int) = (evs.length : Int) + 1 from by simp] at N10
    refine K1 (by assumption) _ _ _ _ (fun z hz => ?_) F10 N10
    rcases List.mem_cons.mp hz with rfl | hz
    · exact lf.1
    · rcases List.mem_cons.mp hz with rfl | hz
      · exact lf.2.1
      · exact allLt_mem lf.2.2 z hz

theorem Walks.wide {prog : Program} {w : World} {A : Around} {I : Addr} {fp wr : List Addr} {n : Nat} {P : Nat → Value → Prop} {St : Nat → Heap → Prop} (W : Walks prog w A I fp wr n P St) : Walks prog w A I fp fp n P St where
  sub := fun _ h => h
  frame := W.frame
  item := fun i s Q E hi st hQ => W.item i s Q E hi st fun v h' tk p st' k => hQ v h' tk p st' fun b o hb => k b o fun h => hb (W.sub b h)
  done := fun s Q E st hQ => W.done s Q E st fun h' tk k => hQ h' tk fun b o hb => k b o fun h => hb (W.sub b h)
  self := W.self
def L3J (mk en : Addr) (es : List Str) (x : Span) (m : Str → Option Value) (Y : Led) (i : Nat) (m₁ : Str → Option Value) (nx : Led) : Prop :=
  ∃ (mvs evs : List Value) (nm ne : Nat) (tl : Led), nx = (mk, listOf mvs.toArray nm) :: (en, listOf evs.toArray ne) :: (tl ++ Y) ∧ DatAll tl mvs (marksD es.length (x.sides.take i)) ∧ StrsAre evs (es ++ heardOf (x.sides.take i)) ∧
    (∀ p ∈ tl, @LT.lt Nat _ mk p.1 ∧ @LT.lt Nat _ en p.1 ∧ ∀ z ∈ Y, z.1 < p.1) ∧ (∀ y, y ≠ Str.ofString "end" → m₁ y = m y)
set_option maxHeartbeats 2000000 in
theorem l3_loop {w : World} {p : Program} {loose : List Str} {mean : ExcName → Option Value} {mg mb : Str → Option Value}
    {dp un : Nat} {gd : Option (List Code)} {fa cT : Addr} {cd : Value} {outer : List Env} {A₀ : Around} {base h₀ : Heap} {L : Addr} {m : Str → Option Value} {s : Shared} {Q : Flow → Shared → Prop} {E : Value → Shared → Prop}
    {mk en : Addr} {evs : List Value} {n0 ne : Nat} {Y : Led} {x : Span} {tl th : Tok} {es : List Str}
    (AT : At w p loose mean mg mb (fnScope lawDef) outer A₀ base h₀ L m s.heap ((mk, listOf #[] n0) :: (en, listOf evs.toArray ne) :: Y))
    (hm1 : m (Str.ofString "low") = some (.str x.lo tl)) (hm2 : m (Str.ofString "high") = some (.str x.hi th)) (hm3 : m (Str.ofString "marks") = some (.ref mk)) (hm4 : m (Str.ofString "ends") = some (.ref en))
    (hev : StrsAre evs es) (hes : es.length ≤ 20) (hne : @LT.lt Nat _ en mk) (hY1 : ∀ p ∈ Y, p.1 ≠ mk) (hY2 : ∀ p ∈ Y, p.1 ≠ en)
    (hdp : dp + 20 < recursionLimit) (hun : un + 200 < cLine)
    (hE : PassesOwn (model PySem.Challenge.rw_ej5023_01.row.prog w) (ktrTop dp un gd lawQ (fnScope lawDef) L fa cd [(tx, cT)] outer) (envX lawQ (fnScope lawDef) L fa cd [(tx, cT)]) E)
    (K : ∀ m' nx h' tk', L3J mk en es x m Y 2 m' nx → Fr h₀ L h' m' → News h₀ L h' nx → Q .next { s with heap := h', toks := tk' }) :
    wpAny (model PySem.Challenge.rw_ej5023_01.row.prog w) (ktrTop dp un gd lawQ (fnScope lawDef) L fa cd [(tx, cT)] outer) (exec (nthS l2Body 1) (envX lawQ (fnScope lawDef) L fa cd [(tx, cT)])) Q E s := by
  obtain ⟨B, F, X, T, hk, N, C1, C2, C3⟩ := AT
  w_top off; revert X; k_fill; intro X
  conv in (nthS l2Body 1) => whnf
  (with_unfolding_all refine' For_invVF F ?k1 ?k2 ?_ (hE := hE); (case k1 => exact rfl); (case k2 => exact rfl))
  repeat' ((fail_if_success (with_reducible show wpAny _ _ (pyIter _) _ _ _)); first | (k_unfold; (try dsimp only)) | (k_end; wrow_close) | walk1 | (dsimp only; walk1) | (leave1; walk_say "STEP leave1"; try dsimp only) | fail "no step")
  (rename Fr h₀ L _ _ => F9)
  (rename News h₀ L _ ((_, _) :: (mk, _) :: _) => N9)
  rename_i D9 h9 lD
  have hTup : Heap.IsTuple _ D9 #[Value.str x.lo tl, Value.str x.hi th] := ⟨_, (N9 _ (.head _)).1, rfl, _, rfl⟩
  have hlt : @LT.lt Nat _ D9 h9.objs.size := Heap.lt_size (N9 _ (.head _)).1
  have N8 : News h₀ L h9 ((mk, listOf #[] n0) :: (en, listOf evs.toArray ne) :: Y) := fun p hp => N9 p (.tail _ hp)
  have hD9 : ∀ p ∈ (mk, listOf #[] n0) :: (en, listOf evs.toArray ne) :: Y, p.1 ≠ D9 := by
    intro p hp
    rcases List.mem_cons.mp hp with rfl | hp
    · exact Nat.ne_of_lt lD.1
    · rcases List.mem_cons.mp hp with rfl | hp
      · exact Nat.ne_of_lt lD.2.1
      · exact Nat.ne_of_lt (allLt_mem lD.2.2 p hp)
  refine wpAny_pyIter_tuple hTup ?_
  have W := Walks.wide (Walks.tuple (prog := PySem.Challenge.rw_ej5023_01.row.prog) (w := w) (A := ktrTop dp un gd lawQ (fnScope lawDef) L fa cd [(tx, cT)] outer) rfl h9.objs.size D9 (Nat.ne_of_lt hlt) #[Value.str x.lo tl, Value.str x.hi th])
  refine kdr_loop (L3J mk en es x m Y) W (fun _ h => h) (fun _ h => h) ?_ ?_ ?_ ?_ ⟨⟨_, Heap.get?_push_size _ rfl, rfl, rfl⟩, hTup.push _⟩ (F9.push _) (fun p hp => ⟨Heap.get?_push_of_some _ (N8 p hp).1, (N8 p hp).2⟩)
    ⟨[], evs, n0, ne, [], rfl, .nil, by rw [show x.sides.take 0 = [] from rfl, show heardOf [] = [] from rfl, List.append_nil]; exact hev, fun _ h => (nomatch h), fun _ _ => rfl⟩ ?_ ?_
  · rintro i h ⟨⟨o1, e1, _⟩, ⟨o2, e2, _⟩⟩ b hb
    rcases List.mem_cons.mp hb with rfl | hb
    · exact ⟨o1, e1⟩
    · rw [List.mem_singleton.mp hb]; exact ⟨o2, e2⟩
  · intro hm
    rcases List.mem_cons.mp hm with q | hm
    · exact absurd F9.ns.lt (q ▸ Nat.lt_irrefl _)
    · exact (N9 _ (.head _)).2.1 (List.mem_singleton.mp hm).symm
  · intro b hb
    rcases List.mem_cons.mp hb with rfl | hb
    · exact next_is_new F9
    · rw [List.mem_singleton.mp hb]; exact (N9 _ (.head _)).2.2
  · intro p hp hI
    rcases List.mem_cons.mp hI with q | hI
    · exact absurd (Heap.lt_size (N8 p hp).1) (q ▸ Nat.lt_irrefl _)
    · exact hD9 p hp (List.mem_singleton.mp hI)
  · rintro i v m₁ nx h tk own hi hv hoff ⟨mvs, evs', nm, ne', tl', rfl, j1, j2, j3, j4⟩ F₁ N₁
    obtain ⟨e, te, rst, rfl, hs1, hs2, hi2⟩ := sides_turn hv
    have ownOff : ∀ q ∈ (mk, listOf mvs.toArray nm) :: (en, listOf evs'.toArray ne') :: (tl' ++ Y), ∀ p ∈ own, p.1 ≠ q.1 := fun q hq p hp => hoff p hp _ (List.mem_map.mpr ⟨q, hq, rfl⟩)
    have hl1 : evs'.length = es.length + (heardOf (x.sides.take i)).length := by rw [j2.length, List.length_append]
    have hl2 : (heardOf (x.sides.take i)).length ≤ 2 := Nat.le_trans (heardOf_len _) (by rw [List.length_take]; omega)
    have hl3 : mvs.length ≤ 2 := by rw [j1.length, marksD_len, List.length_take]; omega
    refine l3_turn (Y := (tl' ++ Y) ++ own) (mk := mk) (en := en) (mvs := mvs) (evs := evs') (nm := nm) (ne := ne') (e := e) (te := te) ⟨B, F₁, X, T, hk, N₁, C1, C2, C3⟩ rfl ?_ ?_ (by omega) (by omega) hne ?_ ?_ hdp hun ?_ ?_
    · exact (j4 (Str.ofString "marks") (by decide)).trans hm3
    · exact (j4 (Str.ofString "ends") (by decide)).trans hm4
    · intro q hq
      simp only [List.mem_append] at hq
      rcases hq with (hq | hq) | hq
      · exact Nat.ne_of_gt (j3 q hq).1
      · exact hY1 q hq
      · exact ownOff _ (.head _) q hq
    · intro q hq
      simp only [List.mem_append] at hq
      rcases hq with (hq | hq) | hq
      · exact Nat.ne_of_gt (j3 q hq).2.1
      · exact hY2 q hq
      · exact ownOff _ (.tail _ (.head _)) q hq
    · intro h0 h' tk' F' N'
      refine ⟨h', tk', _, _, (mk, listOf (mvs ++ [Value.none]).toArray (nm + 1)) :: (en, listOf evs'.toArray ne') :: (tl' ++ Y), rfl, F', N', ?_, ?_, ?_, mvs ++ [Value.none], evs', nm + 1, ne', tl', rfl, ?_, ?_, j3, ?_⟩
      · intro q hq
        simp only [List.mem_cons, List.mem_append] at hq ⊢
        rcases hq with h | h | h | h <;> simp [h]
      · intro q hq
        simp only [List.mem_cons, List.mem_append]
        simp [hq]
      · intro p hp b hb e2
        obtain ⟨q, hq, rfl⟩ := List.mem_map.mp hb
        rcases List.mem_cons.mp hq with rfl | hq
        · exact ownOff _ (.head _) p hp e2
        · rcases List.mem_cons.mp hq with rfl | hq
          · exact ownOff _ (.tail _ (.head _)) p hp e2
          · exact ownOff q (.tail _ (.tail _ hq)) p hp e2
      · rw [hs1, marksD_append, marksD_e h0]; exact j1.append (.one .none)
      · rw [hs1, heardOf_append, heardOf_e h0, List.append_nil]; exact j2
      · intro y hy
        show (if y = Str.ofString "end" then _ else m₁ y) = m y
        rw [if_neg hy]; exact j4 y hy
    · intro h0 r t h' tk' hr F' N'
      refine ⟨h', tk', _, _, (mk, listOf (mvs ++ [Value.ref r]).toArray (nm + 1)) :: (en, listOf (evs' ++ [Value.str e te]).toArray (ne' + 1)) :: (((r, { cls := .type "tuple", data := .seq #[.int ((evs'.length : Int) + 1) t, .str e te] }) :: tl') ++ Y), rfl, F', N', ?_, ?_, ?_, mvs ++ [Value.ref r], evs' ++ [Value.str e te], nm + 1, ne' + 1, _, rfl, ?_, ?_, ?_, ?_⟩
      · intro q hq
        simp only [List.mem_cons, List.mem_append] at hq ⊢
        rcases hq with h | h | (h | h) | h <;> simp [h]
      · intro q hq
        simp only [List.mem_cons, List.mem_append]
        simp [hq]
      · intro p hp b hb e2
        obtain ⟨q, hq, rfl⟩ := List.mem_map.mp hb
        rcases List.mem_cons.mp hq with rfl | hq
        · exact ownOff _ (.head _) p hp e2
        · rcases List.mem_cons.mp hq with rfl | hq
          · exact ownOff _ (.tail _ (.head _)) p hp e2
          · rcases List.mem_cons.mp hq with rfl | hq
            · exact Nat.ne_of_lt (hr p (.tail _ (.tail _ (List.mem_append_right _ hp)))) e2
            · exact ownOff q (.tail _ (.tail _ hq)) p hp e2
      · rw [hs1, marksD_append, marksD_n h0]
        refine (j1.mono fun q hq => List.mem_cons_of_mem _ hq).append (.one ?_)
        rw [← hl1]
        exact .tuple (vs := [.int ((evs'.length : Int) + 1) t, .str e te]) (.head _) (.cons (.int _ _) (.cons (.str _ _) .nil))
      · rw [hs1, heardOf_append, heardOf_n h0, ← List.append_assoc]; exact j2.append' (.cons _ _ .nil)
      · intro q hq
        rcases List.mem_cons.mp hq with rfl | hq
        · exact ⟨hr _ (.head _), hr _ (.tail _ (.head _)), fun z hz => hr z (.tail _ (.tail _ (List.mem_append_left _ (List.mem_append_right _ hz))))⟩
        · exact j3 q hq
      · intro y hy
        show (if y = Str.ofString "end" then _ else m₁ y) = m y
        rw [if_neg hy]; exact j4 y hy
  · intro m₁ nx h tk hJ F₁ N₁
    exact K m₁ nx h tk hJ F₁ N₁

set_option maxHeartbeats 2000000 in
theorem l2_turn {w : World} {p : Program} {loose : List Str} {mean : ExcName → Option Value} {mg mb : Str → Option Value}
    {dp un : Nat} {gd : Option (List Code)} {fa cT : Addr} {cd : Value} {outer : List Env} {A₀ : Around} {base h₀ : Heap} {L : Addr} {m : Str → Option Value} {s : Shared} {Q : Flow → Shared → Prop} {E : Value → Shared → Prop}
    {du en : Addr} {dvs evs : List Value} {nd ne : Nat} {Y : Led} {x : Span} {tb tl th : Tok} {es : List Str}
    (AT : At w p loose mean mg mb (fnScope lawDef) outer A₀ base h₀ L m s.heap ((du, listOf dvs.toArray nd) :: (en, listOf evs.toArray ne) :: Y))
    (hm1 : m (Str.ofString "bounds") = some (.str ⟨#[x.b0, x.b1]⟩ tb)) (hm2 : m (Str.ofString "low") = some (.str x.lo tl)) (hm3 : m (Str.ofString "high") = some (.str x.hi th))
    (hm4 : m (Str.ofString "due") = some (.ref du)) (hm5 : m (Str.ofString "ends") = some (.ref en)) (hev : StrsAre evs es) (hes : es.length ≤ 20) (hdv : dvs.length ≤ 20)
    (hne : @LT.lt Nat _ en du) (hY1 : ∀ p ∈ Y, p.1 ≠ du) (hY2 : ∀ p ∈ Y, p.1 ≠ en)
    (hdp : dp + 20 < recursionLimit) (hun : un + 200 < cLine)
    (hE : PassesOwn (model PySem.Challenge.rw_ej5023_01.row.prog w) (ktrTop dp un gd lawQ (fnScope lawDef) L fa cd [(tx, cT)] outer) (envX lawQ (fnScope lawDef) L fa cd [(tx, cT)]) E)
    (K : ∀ (D : Addr) (evs' : List Value) (ne' : Nat) (tl' : Led) m' h' tk', (∀ y, y ≠ Str.ofString "end" → y ≠ Str.ofString "marks" → m' y = m y) → StrsAre evs' (es ++ heardOf x.sides) → DatIn tl' (.ref D) (dueD es.length x) →
      (∀ p ∈ tl', ∀ z ∈ (du, listOf dvs.toArray nd) :: (en, listOf evs.toArray ne) :: Y, z.1 < p.1) → Fr h₀ L h' m' →
      News h₀ L h' ((du, listOf (dvs ++ [Value.ref D]).toArray (nd + 1)) :: (en, listOf evs'.toArray ne') :: (tl' ++ Y)) → Q .next { s with heap := h', toks := tk' }) :
    wpAny (model PySem.Challenge.rw_ej5023_01.row.prog w) (ktrTop dp un gd lawQ (fnScope lawDef) L fa cd [(tx, cT)] outer) (execs l2Body (envX lawQ (fnScope lawDef) L fa cd [(tx, cT)])) Q E s := by
  obtain ⟨B, F, X, T, hk, N, C1, C2, C3⟩ := AT
  w_top off; revert X; k_fill; intro X
  conv in l2Body => whnf
  repeat' ((fail_if_success (with_reducible show wpAny _ _ (exec (Stmt.For _ _ _ _ _) _) _ _ _)); first | (k_unfold; (try dsimp only)) | (k_end; wrow_close) | walk1 | (dsimp only; walk1) | (leave1; walk_say "STEP leave1"; try dsimp only) | fail "no step")
  (rename _ ∧ _ ∧ AllLt _ Y => lf)
  (rename Fr h₀ L _ _ => F1)
  (rename News h₀ L _ ((_, _) :: _) => N1)
  have n3 := allLt_mem lf.2.2
  rename_i mk h1 h2
  refine l3_loop (s := { s with heap := _, toks := _ }) (Y := (du, listOf dvs.toArray nd) :: Y) (x := x) (evs := evs) (ne := ne) (n0 := 0) (mk := mk) (en := en) ⟨B, F1, X, T, hk, news_sub N1 ?_, C1, C2, C3⟩ hm2 hm3 rfl hm5 hev hes lf.2.1 ?_ ?_ hdp hun hE ?_
  · intro q hq
    simp only [List.mem_cons] at hq ⊢
    rcases hq with h | h | h | h <;> simp [h]
  · intro q hq
    rcases List.mem_cons.mp hq with rfl | hq
    · exact Nat.ne_of_lt lf.1
    · exact Nat.ne_of_lt (n3 q hq)
  · intro q hq
    rcases List.mem_cons.mp hq with rfl | hq
    · exact Nat.ne_of_gt hne
    · exact hY2 q hq
  · rintro m' nx h3 k3 ⟨mvs, evs', nm, ne', tl', rfl, j1, j2, j3, j4⟩ F3 N3
    have hml : mvs.length = 2 := by rw [j1.length, marksD_len]; rfl
    obtain ⟨y1, y2, rfl⟩ : ∃ y1 y2, mvs = [y1, y2] := by
      match mvs, hml with
      | [y1, y2], _ => exact ⟨y1, y2, rfl⟩
    have k1 : m' (Str.ofString "marks") = some (.ref mk) := j4 _ (by decide)
    have k2 : m' (Str.ofString "bounds") = some (.str ⟨#[x.b0, x.b1]⟩ tb) := (j4 _ (by decide)).trans hm1
    have k4 : m' (Str.ofString "due") = some (.ref du) := (j4 _ (by decide)).trans hm4
    have N4 : News h₀ L h3 ((du, listOf dvs.toArray nd) :: (mk, listOf #[y1, y2] nm) :: (en, listOf evs'.toArray ne') :: (tl' ++ Y)) := news_sub N3 fun q hq => by
      simp only [List.mem_cons, List.mem_append] at hq ⊢
      rcases hq with h | h | h | h | h <;> simp [h]
    have f1 : ∀ p ∈ tl' ++ Y, p.1 ≠ du := fun q hq => (List.mem_append.mp hq).elim (fun h => Nat.ne_of_gt ((j3 q h).2.2 _ (.head _))) (hY1 q)
    have hIm : h3.IsList mk #[y1, y2] := ⟨_, (N4 _ (.tail _ (.head _))).1, rfl, _, rfl⟩
    clear N3
    repeat' ((fail_if_success (with_reducible show wpAny _ _ (subscriptTail _ _ _ _) _ _ _)); first | (k_unfold; (try dsimp only)) | (k_end; wrow_close) | walk1 | (dsimp only; walk1) | (leave1; walk_say "STEP leave1"; try dsimp only) | fail "no step")
    refine item_list (x := y1) hIm (by decide) (by decide) rfl ?_
    repeat' ((fail_if_success (with_reducible show wpAny _ _ (subscriptTail _ _ _ _) _ _ _)); first | (k_unfold; (try dsimp only)) | (k_end; wrow_close) | walk1 | (dsimp only; walk1) | (leave1; walk_say "STEP leave1"; try dsimp only) | fail "no step")
    refine item_list (x := y2) hIm (by decide) (by decide) rfl ?_
    k_steps
    (rename Fr h₀ L _ _ => F7)
    (rename News h₀ L _ ((_, _) :: (du, _) :: _) => N7)
    (rename (_ ∧ _ ∧ _ ∧ AllLt _ _) => lf7)
    simp only [List.push_toArray] at N7
    rename_i D7 h7 _
    have lfT := allLt_mem lf7.2.2.2
    refine K D7 evs' ne' ((D7, { cls := .type "tuple", data := .seq #[y1, y2, .str ⟨#[x.b0, x.b1]⟩ tb, .bool false] }) :: (mk, listOf #[y1, y2] nm) :: tl') m' _ _ (fun y a b => (j4 y a).trans (if_neg b)) j2 ?_ ?_ F7 (news_sub N7 ?_)
    · exact .tuple (vs := [y1, y2, .str ⟨#[x.b0, x.b1]⟩ tb, .bool false]) (.head _) ((j1.mono fun q hq => .tail _ (.tail _ hq)).append (.cons (.str _ _) (.cons (.bool _) .nil)))
    · intro q hq z hz
      have hz' : z.1 < mk := by
        rcases List.mem_cons.mp hz with rfl | hz
        · exact lf.1
        · rcases List.mem_cons.mp hz with rfl | hz
          · exact lf.2.1
          · exact n3 z hz
      rcases List.mem_cons.mp hq with rfl | hq
      · exact Nat.lt_trans hz' lf7.2.1
      · rcases List.mem_cons.mp hq with rfl | hq
        · exact hz'
        · exact Nat.lt_trans hz' (j3 q hq).1
    · intro q hq
      simp only [List.mem_cons, List.mem_append] at hq ⊢
      rcases hq with h | h | (h | h | h) | h <;> simp [h]

def duesD : Nat → List Span → List Dat
  | _, [] => []
  | k, x :: xs => dueD k x :: duesD (k + (heardOf x.sides).length) xs
theorem duesD_snoc : ∀ (xs : List Span) (k : Nat) (x : Span), duesD k (xs ++ [x]) = duesD k xs ++ [dueD (k + (endsOf xs).length) x]
  | [], k, x => by simp [duesD, endsOf, heardOf]
  | y :: xs, k, x => by
    have e : endsOf (y :: xs) = heardOf y.sides ++ endsOf xs := by rw [← endsOf_one y, ← endsOf_append]; rfl
    rw [List.cons_append]
    show dueD k y :: duesD _ (xs ++ [x]) = dueD k y :: duesD _ xs ++ _
    rw [duesD_snoc xs _ x, e, List.length_append, Nat.add_assoc]; rfl
theorem duesD_len : ∀ (xs : List Span) (k : Nat), (duesD k xs).length = xs.length
  | [], _ => rfl
  | x :: xs, k => by show (dueD k x :: duesD _ xs).length = _; rw [List.length_cons, duesD_len xs, List.length_cons]
def L2J (du en : Addr) (xs : List Span) (m : Str → Option Value) (Y : Led) (i : Nat) (m₁ : Str → Option Value) (nx : Led) : Prop :=
  ∃ (dvs evs : List Value) (nd ne : Nat) (tl : Led), nx = (du, listOf dvs.toArray nd) :: (en, listOf evs.toArray ne) :: (tl ++ Y) ∧ DatAll tl dvs (duesD 0 (xs.take i)) ∧ StrsAre evs (endsOf (xs.take i)) ∧
    (∀ p ∈ tl, @LT.lt Nat _ du p.1 ∧ @LT.lt Nat _ en p.1 ∧ ∀ z ∈ Y, z.1 < p.1) ∧
    (∀ y, y ≠ Str.ofString "bounds" → y ≠ Str.ofString "low" → y ≠ Str.ofString "high" → y ≠ Str.ofString "end" → y ≠ Str.ofString "marks" → m₁ y = m y)
set_option maxHeartbeats 2000000 in
theorem law5 {w : World} {p : Program} {loose : List Str} {mean : ExcName → Option Value} {mg mb : Str → Option Value}
    {dp un : Nat} {gd : Option (List Code)} {fa cT : Addr} {cd : Value} {outer : List Env} {A₀ : Around} {base h₀ : Heap} {L : Addr} {m : Str → Option Value} {s : Shared} {Q : Flow → Shared → Prop} {E : Value → Shared → Prop}
    {o1 o2 o3 : Obj} {sp : Addr} {vs : List Value} {nv : Nat} {Z : Led} {xs : List Span}
    (AT : At w p loose mean mg mb (fnScope lawDef) outer A₀ base h₀ L m s.heap (tabs o1 o2 o3 ++ Z)) (hT : Tab3 o1 o2 o3 Z)
    (hm1 : m (Str.ofString "spans") = some (.ref sp)) (hsp : (sp, listOf vs.toArray nv) ∈ Z) (hD : DatAll Z vs (xs.map spanD)) (hl : xs.length ≤ 5)
    (hdp : dp + 100 < recursionLimit) (hun : un + 1000 < cLine)
    (hE : PassesOwn (model PySem.Challenge.rw_ej5023_01.row.prog w) (ktrTop dp un gd lawQ (fnScope lawDef) L fa cd [(tx, cT)] outer) (envX lawQ (fnScope lawDef) L fa cd [(tx, cT)]) E)
    (K : ∀ (Z' : Led) (du en : Addr) dvs evs nd ne m' h' tk', (∀ q ∈ Z, q ∈ Z') → Tab3 o1 o2 o3 Z' → (du, listOf dvs.toArray nd) ∈ Z' → DatAll Z' dvs (duesD 0 xs) → (en, listOf evs.toArray ne) ∈ Z' → StrsAre evs (endsOf xs) →
      m' (Str.ofString "due") = some (.ref du) → m' (Str.ofString "ends") = some (.ref en) → (∀ y, y ≠ Str.ofString "due" → y ≠ Str.ofString "ends" → y ≠ Str.ofString "bounds" → y ≠ Str.ofString "low" → y ≠ Str.ofString "high" → y ≠ Str.ofString "end" → y ≠ Str.ofString "marks" → m' y = m y) →
      Fr h₀ L h' m' → News h₀ L h' (tabs o1 o2 o3 ++ Z') →
      wpAny (model PySem.Challenge.rw_ej5023_01.row.prog w) (ktrTop dp un gd lawQ (fnScope lawDef) L fa cd [(tx, cT)] outer) (execs ((fnBody lawDef).drop 13) (envX lawQ (fnScope lawDef) L fa cd [(tx, cT)])) Q E { s with heap := h', toks := tk' }) :
    wpAny (model PySem.Challenge.rw_ej5023_01.row.prog w) (ktrTop dp un gd lawQ (fnScope lawDef) L fa cd [(tx, cT)] outer) (execs ((fnBody lawDef).drop 10) (envX lawQ (fnScope lawDef) L fa cd [(tx, cT)])) Q E s := by
  obtain ⟨B, F, X, T, hk, N, C1, C2, C3⟩ := AT
  w_top off; revert X; k_fill; intro X
  conv in (fnBody lawDef).drop 10 => whnf
  repeat' ((fail_if_success (with_reducible show wpAny _ _ (exec (Stmt.For _ _ _ _ _) _) _ _ _)); first | (k_unfold; (try dsimp only)) | (k_end; wrow_close) | walk1 | (dsimp only; walk1) | (leave1; walk_say "STEP leave1"; try dsimp only) | fail "no step")
  (rename Fr h₀ L _ _ => F1)
  (rename News h₀ L _ ((_, _) :: _ :: _) => N1)
  (rename (∀ p ∈ tabs o1 o2 o3 ++ Z, p.1 < _) => fr1)
  (rename (_ ∧ AllLt _ (tabs o1 o2 o3 ++ Z)) => lf)
  rename_i en _ _ du _ h2
  have fr2 := allLt_mem lf.2
  have hvl : vs.length = xs.length := by rw [hD.length, List.length_map]
  have inZ : ∀ {m9 i m₁ nx}, L2J du en xs m9 (tabs o1 o2 o3 ++ Z) i m₁ nx → ∀ q ∈ Z, q ∈ nx := by
    rintro m9 i m₁ nx ⟨dvs, evs, nd, ne, tl, rfl, _⟩ q hq
    exact .tail _ (.tail _ (List.mem_append_right _ (List.mem_append_right _ hq)))
  refine forT_list (ax := sp) (its := vs.toArray) (k := nv) (L2J du en xs (fun y => if y = Str.ofString "due" then some (Value.ref du) else if y = Str.ofString "ends" then some (Value.ref en) else m y) (tabs o1 o2 o3 ++ Z)) rfl rfl F1 N1 ?_ rfl rfl rfl rfl rfl (fun i m₁ nx hJ => inZ hJ _ hsp) ⟨[], [], 0, 0, [], rfl, .nil, .nil, (fun _ h => nomatch h), fun _ _ _ _ _ _ => rfl⟩ ?_ ?_ hE
  · exact hm1
  · rintro i v m₁ nx hi hJ
    have hi1 : i < vs.length := by
      have h5 : i < vs.toArray.size := (Array.getElem?_eq_some_iff.mp hi).1
      rwa [List.size_toArray] at h5
    have hi2 : i < (xs.map spanD).length := by rw [List.length_map]; omega
    obtain ⟨v', hv', hd⟩ := hD.get hi2
    have hvv : v' = v := by
      have h5 : vs[i]? = some v := by rw [← hi]; simp
      rw [h5] at hv'
      exact (Option.some.inj hv').symm
    subst hvv
    rw [List.getElem_map] at hd
    obtain ⟨t, n, t1, t2, t3, rfl, hmt⟩ := span_parts hd
    have hix : i < xs.length := by omega
    refine ⟨t, _, _, _, _, n, rfl, inZ hJ _ hmt, rfl, rfl, ?_⟩
    obtain ⟨dvs, evs, nd, ne, tl, rfl, j1, j2, j3, j4⟩ := hJ
    intro I oI s₁ F4 off4 N4
    have hel := endsOf_len (xs.take i)
    have htl : (xs.take i).length ≤ 5 := by rw [List.length_take]; omega
    refine l2_turn (du := du) (en := en) (dvs := dvs) (evs := evs) (nd := nd) (ne := ne) (Y := (I, oI) :: (tl ++ (tabs o1 o2 o3 ++ Z))) (x := xs[i]) (es := endsOf (xs.take i)) (tb := t1) (tl := t2) (th := t3) ⟨B, F4, X, T, hk, news_sub N4 ?_, C1, C2, C3⟩ ?_ ?_ ?_ ?_ ?_ j2 (by omega) ?_ lf.1 ?_ ?_ (by omega) (by omega) hE ?_
    · generalize (tabs o1 o2 o3 ++ Z) = Y9
      intro q hq
      simp only [List.mem_cons, List.mem_append] at hq ⊢
      rcases hq with h | h | h | h | h <;> simp [h]
    · rfl
    · rfl
    · rfl
    · exact (j4 (Str.ofString "due") (by decide) (by decide) (by decide) (by decide) (by decide)).trans rfl
    · exact (j4 (Str.ofString "ends") (by decide) (by decide) (by decide) (by decide) (by decide)).trans rfl
    · rw [j1.length, duesD_len]; omega
    · intro q hq
      rcases List.mem_cons.mp hq with rfl | hq
      · exact Ne.symm (off4 _ (.head _))
      · rcases List.mem_append.mp hq with hq | hq
        · exact Nat.ne_of_gt (j3 q hq).1
        · exact Nat.ne_of_lt (fr2 q hq)
    · intro q hq
      rcases List.mem_cons.mp hq with rfl | hq
      · exact Ne.symm (off4 _ (.tail _ (.head _)))
      · rcases List.mem_append.mp hq with hq | hq
        · exact Nat.ne_of_gt (j3 q hq).2.1
        · exact Nat.ne_of_lt (fr1 q hq)
    · intro D evs' ne' tl' m' h' tk' k1 k2 k3 k4 F5 N5
      refine ⟨rfl, h', tk', m', (du, listOf (dvs ++ [Value.ref D]).toArray (nd + 1)) :: (en, listOf evs'.toArray ne') :: ((tl' ++ tl) ++ (tabs o1 o2 o3 ++ Z)), rfl, F5, news_sub N5 ?_, ?_, dvs ++ [Value.ref D], evs', nd + 1, ne', tl' ++ tl, rfl, ?_, ?_, ?_, ?_⟩
      · generalize (tabs o1 o2 o3 ++ Z) = Y9
        intro q hq
        simp only [List.mem_cons, List.mem_append] at hq ⊢
        rcases hq with h | h | h | (h | h) | h <;> simp [h]
      · intro q hq
        simp only [List.mem_cons, List.mem_append] at hq
        rcases hq with rfl | rfl | (hq | hq) | hq
        · exact off4 (du, listOf dvs.toArray nd) (.head _)
        · exact off4 (en, listOf evs.toArray ne) (.tail _ (.head _))
        · exact Nat.ne_of_gt (k4 q hq (I, oI) (.tail _ (.tail _ (.head _))))
        · exact off4 q (.tail _ (.tail _ (List.mem_append_left _ hq)))
        · exact off4 q (.tail _ (.tail _ (List.mem_append_right _ (by simp only [List.mem_append, List.mem_cons]; exact hq))))
      · rw [List.take_add_one, List.getElem?_eq_getElem hix]
        show DatAll _ _ (duesD 0 (xs.take i ++ [xs[i]]))
        rw [duesD_snoc, Nat.zero_add]
        exact (j1.mono fun q hq => List.mem_append_right _ hq).append (.one (k3.mono fun q hq => List.mem_append_left _ hq))
      · rw [List.take_add_one, List.getElem?_eq_getElem hix]
        show StrsAre _ (endsOf (xs.take i ++ [xs[i]]))
        rw [endsOf_append, endsOf_one]; exact k2
      · intro q hq
        rcases List.mem_append.mp hq with hq | hq
        · exact ⟨k4 q hq _ (.head _), k4 q hq _ (.tail _ (.head _)), fun z hz => k4 q hq z (.tail _ (.tail _ (.tail _ (List.mem_append_right _ hz))))⟩
        · exact j3 q hq
      · intro y e1 e2 e3 e4 e5
        refine (k1 y e4 e5).trans ?_
        dsimp only
        rw [if_neg e3, if_neg e2, if_neg e1]
        exact j4 y e1 e2 e3 e4 e5
  · intro m₁ nx h tk' hJ F4 N4
    have inJ := inZ hJ
    rw [List.size_toArray, hvl] at hJ
    obtain ⟨dvs, evs, nd, ne, tl, rfl, j1, j2, j3, j4⟩ := hJ
    rw [List.take_of_length_le (Nat.le_refl _)] at j1 j2
    have g1 : m₁ (Str.ofString "due") = some (.ref du) := (j4 (Str.ofString "due") (by decide) (by decide) (by decide) (by decide) (by decide)).trans rfl
    have g2 : m₁ (Str.ofString "ends") = some (.ref en) := (j4 (Str.ofString "ends") (by decide) (by decide) (by decide) (by decide) (by decide)).trans rfl
    have upZ : ∀ q ∈ Z, q ∈ (du, listOf dvs.toArray nd) :: (en, listOf evs.toArray ne) :: (tl ++ Z) := fun q hq => .tail _ (.tail _ (List.mem_append_right _ hq))
    refine K ((du, listOf dvs.toArray nd) :: (en, listOf evs.toArray ne) :: (tl ++ Z)) du en dvs evs nd ne m₁ h tk' upZ ⟨hT.1.mono upZ, hT.2.1.mono upZ, hT.2.2.1.mono upZ, fun q hq => ?_⟩ (.head _) (j1.mono fun q hq => .tail _ (.tail _ (List.mem_append_left _ hq))) (.tail _ (.head _)) j2 g1 g2 ?_ F4 (news_sub N4 fun q hq => ?_)
    · simp only [List.mem_cons, List.mem_append] at hq
      rcases hq with rfl | rfl | hq | hq
      · exact ⟨Nat.ne_of_gt (fr2 _ (.head _)), Nat.ne_of_gt (fr2 _ (.tail _ (.head _))), Nat.ne_of_gt (fr2 _ (.tail _ (.tail _ (.head _))))⟩
      · exact ⟨Nat.ne_of_gt (fr1 _ (.head _)), Nat.ne_of_gt (fr1 _ (.tail _ (.head _))), Nat.ne_of_gt (fr1 _ (.tail _ (.tail _ (.head _))))⟩
      · have k := (j3 q hq).2.2
        exact ⟨Nat.ne_of_gt (k _ (.head _)), Nat.ne_of_gt (k _ (.tail _ (.head _))), Nat.ne_of_gt (k _ (.tail _ (.tail _ (.head _))))⟩
      · exact hT.2.2.2 q hq
    · intro y e1 e2 e3 e4 e5 e6 e7
      refine (j4 y e3 e4 e5 e6 e7).trans ?_
      dsimp only
      rw [if_neg e1, if_neg e2]
    · simp only [List.mem_cons, List.mem_append, List.not_mem_nil, or_false] at hq ⊢
      rcases hq with (h | h | h) | h | h | h | h <;> simp [h]

theorem RangesAre.get {P : Params} {tl : Led} : ∀ {vs : List Value} {k : Nat} {xs : List Span}, RangesAre P tl vs k xs → ∀ {i : Nat} (h : i < xs.length), ∃ v, vs[i]? = some v ∧ RangeIs P tl v (k + (endsOf (xs.take i)).length) xs[i]
  | [], _, [], _, _, h => absurd h (Nat.not_lt_zero _)
  | v :: _, k, x :: xs, h, 0, _ => ⟨v, rfl, h.1⟩
  | _ :: vs, k, x :: xs, h, i + 1, hi => by
    obtain ⟨v, e, r⟩ := RangesAre.get h.2 (i := i) (Nat.lt_of_succ_lt_succ hi)
    refine ⟨v, e, ?_⟩
    have e2 : endsOf ((x :: xs).take (i + 1)) = heardOf x.sides ++ endsOf (xs.take i) := by rw [List.take_succ_cons, ← endsOf_one x, ← endsOf_append]; rfl
    rw [e2, List.length_append, ← Nat.add_assoc]; exact r
def firstS : List Stmt → Stmt
  | e :: _ => e
  | [] => .Pass ⟨0, 0, 0, 0⟩
def ifBody : Stmt → List Stmt
  | .If _ b _ _ => b
  | _ => []
def retOf : Stmt → Expr
  | .Return (some e) _ => e
  | _ => .Name (Str.ofString "v") ⟨0, 0, 0, 0⟩
def leftOf : Expr → Expr
  | .Compare l _ _ _ => l
  | e => e
def p1Comp : Expr := leftOf (firstOf (cmpOf (nthS (fnBody lawDef) 15)))
def p2Comp : Expr := leftOf (firstOf (retOf (firstS (ifBody (nthS (fnBody lawDef) 26)))))
def n2Comp : Expr := compsOf (firstOf (cmpOf (firstS (ifBody (nthS (fnBody lawDef) 23)))))
def plainJ (Z : Led) (xs : List Span) (i : Nat) (zs : List Value) (nx : Led) : Prop :=
  ∃ tl, nx = tl ++ Z ∧ DatAll (tl ++ Z) zs (duesD 0 (xs.take i)) ∧ ∀ p ∈ tl, ∀ z ∈ Z, z.1 < p.1
set_option maxHeartbeats 1000000 in
theorem p1_turn {w : World} {p : Program} {loose : List Str} {mean : ExcName → Option Value} {mg mb : Str → Option Value}
    {dp un : Nat} {gd : Option (List Code)} {fa cT : Addr} {cd : Value} {outer : List Env} {A₀ : Around} {base h₀ : Heap} {L : Addr} {m : Str → Option Value} {s : Shared} {Q E : Value → Shared → Prop}
    {Z : Led} {C : Addr} {oC : Obj} {m₂ : Str → Option Value}
    {xo dx : Addr} {t1 t2 t3 t4 tb : Tok} {y1 y2 : Value} {b : Str} {e : Bool}
    (AT : At w p loose mean mg mb (fnScope lawDef) outer A₀ base h₀ L m s.heap Z) (hC : (C, oC) ∈ Z) (hoC : LCg.NsObj oC m₂) (hv : m₂ (Str.ofString "found") = some (.ref xo))
    (hy1 : handedIn y1 = true) (hy2 : handedIn y2 = true) (hx : (xo, instObj 51 dx) ∈ Z) (hd : (dx, rangeDict w.params t1 t2 t3 t4 y1 y2 b tb e) ∈ Z)
    (hdp : dp + 20 < recursionLimit) (hun : un + 200 < cLine)
    (K : ∀ r h' tk', (∀ z ∈ Z, z.1 < r) → Fr h₀ L h' m → News h₀ L h' ((r, { cls := .type "tuple", data := .seq #[y1, y2, .str b tb, .bool e] }) :: Z) → Q (.ref r) { s with heap := h', toks := tk' }) :
    wpAny (model PySem.Challenge.rw_ej5023_01.row.prog w) (ktrTop dp un gd lawQ (fnScope lawDef) L fa cd [(tx, cT)] outer)
      (eval (compPart p1Comp).1 (compEnvC (compPart p1Comp).2 [] C (envX lawQ (fnScope lawDef) L fa cd [(tx, cT)]))) Q E s := by
  obtain ⟨B, F, X, T, hk, N, C1, C2, C3⟩ := AT
  w_top off; revert X; k_fill; intro X
  conv in (compPart p1Comp).1 => whnf
  conv in (compPart p1Comp).2 => whnf
  repeat' ((fail_if_success (with_reducible show wpAny _ _ (call (Value.ref 113) _ _) _ _ _)); first | (k_unfold; (try dsimp only)) | (k_end; wrow_close) | walk1 | (dsimp only; walk1) | (leave1; walk_say "STEP leave1"; try dsimp only) | fail "no step")
  exact plain_c (s := { s with toks := _ }) ⟨B, F, X, T, hk, N, C1, C2, C3⟩ hy1 hy2 hx hd (by omega) (by omega) fun r h' tk' l F' N' => K r h' tk' l F' N'
set_option maxHeartbeats 1000000 in
theorem p1_list {w : World} {p : Program} {loose : List Str} {mean : ExcName → Option Value} {mg mb : Str → Option Value}
    {dp un : Nat} {gd : Option (List Code)} {fa cT : Addr} {cd : Value} {outer : List Env} {A₀ : Around} {base h₀ : Heap} {L : Addr} {m : Str → Option Value} {s : Shared} {Q E : Value → Shared → Prop}
    {Z : Led} {r : Addr} {vs : List Value} {n : Nat} {xs : List Span}
    (AT : At w p loose mean mg mb (fnScope lawDef) outer A₀ base h₀ L m s.heap Z)
    (hm : m (Str.ofString "told") = some (.ref r)) (hr : (r, listOf vs.toArray n) ∈ Z) (hR : RangesAre w.params Z vs 0 xs) (hl : xs.length ≤ 5)
    (hdp : dp + 30 < recursionLimit) (hun : un + 300 < cLine)
    (K : ∀ D zs tl h' tk', DatAll (tl ++ Z) zs (duesD 0 xs) → (∀ p ∈ tl, ∀ z ∈ Z, z.1 < p.1) → (∀ z ∈ Z, z.1 ≠ D) → Fr h₀ L h' m → News h₀ L h' ((D, LCg.lst zs) :: (tl ++ Z)) → Q (.ref D) { s with heap := h', toks := tk' }) :
    wpAny (model PySem.Challenge.rw_ej5023_01.row.prog w) (ktrTop dp un gd lawQ (fnScope lawDef) L fa cd [(tx, cT)] outer)
      (eval p1Comp (envX lawQ (fnScope lawDef) L fa cd [(tx, cT)])) Q E s := by
  obtain ⟨B, F, X, T, hk, N, C1, C2, C3⟩ := AT
  w_top off; revert X; k_fill; intro X
  conv in p1Comp => whnf
  refine comp_x (base := base) (h₀ := h₀) (L := L) (outer := outer) F rfl rfl rfl rfl (by decide) rfl (by decide) rfl ?_
  repeat' ((fail_if_success (with_reducible show CompAt _ _ _ _ _ _ _ _ _ _ _ _ _ _ _ _ _)); first | (k_unfold; (try dsimp only)) | (k_end; wrow_close) | walk1 | (dsimp only; walk1) | (leave1; walk_say "STEP leave1"; try dsimp only) | fail "no step")
  have hvl := hR.length
  refine ⟨r, vs.toArray, n, Z, plainJ Z xs, fun _ => False, rfl, F, N, ?_, by rw [List.size_toArray, PySem.sizeLine_eq]; omega, ⟨[], rfl, .nil, fun _ h => nomatch h⟩, ?_, ?_, fun _ _ _ _ _ hf => hf.elim⟩
  · rintro i ys nx ⟨tl, rfl, _⟩
    exact List.mem_append_right _ hr
  · rintro i v zs nx I oI C oC D m₂ h tk hi ⟨tl, rfl, j1, j2⟩ hoC hv F4 N4 off4 ne3
    have off4m := off4.mem
    have hi1 : i < vs.length := by
      have h5 : i < vs.toArray.size := (Array.getElem?_eq_some_iff.mp hi).1
      rwa [List.size_toArray] at h5
    have hix : i < xs.length := by omega
    obtain ⟨v', hv', hd⟩ := hR.get hix
    have hvv : v' = v := by
      have h5 : vs[i]? = some v := by rw [← hi]; simp
      rw [h5] at hv'
      exact (Option.some.inj hv').symm
    subst hvv
    obtain ⟨xo, dx, t1, t2, t3, t4, tb, y1, y2, rfl, m1, m2, hy⟩ := hd
    have hyh : handedIn y1 = true ∧ handedIn y2 = true := by
      generalize marksD _ _ = ms at hy
      cases hy with
      | cons a b => cases b with
        | cons c d => exact ⟨a.handed, c.handed⟩
    have up : ∀ q ∈ Z, q ∈ (I, oI) :: (C, oC) :: (D, LCg.lst zs) :: (tl ++ Z) := fun q hq => .tail _ (.tail _ (.tail _ (List.mem_append_right _ hq)))
    refine p1_turn ⟨B, F4, X, T, hk, N4, C1, C2, C3⟩ (.tail _ (.head _)) hoC hv hyh.1 hyh.2 (up _ m1) (up _ m2) (by omega) (by omega) ?_
    intro q9 h' tk' hr1 F5 N5
    refine ⟨h', tk', (q9, { cls := .type "tuple", data := .seq #[y1, y2, .str ⟨#[(xs[i]).b0, (xs[i]).b1]⟩ tb, .bool false] }) :: (tl ++ Z), rfl, F5, news_sub N5 ?_, ?_, (q9, { cls := .type "tuple", data := .seq #[y1, y2, .str ⟨#[(xs[i]).b0, (xs[i]).b1]⟩ tb, .bool false] }) :: tl, rfl, ?_, ?_⟩
    · intro q hq
      simp only [List.mem_cons] at hq ⊢
      rcases hq with h | h | h | h | h
      · exact .inr (.inl h)
      · exact .inr (.inr (.inl h))
      · exact .inr (.inr (.inr (.inl h)))
      · exact .inl h
      · exact .inr (.inr (.inr (.inr h)))
    · refine ⟨⟨?_, ?_, ?_⟩, off4⟩
      · exact Nat.ne_of_gt (hr1 _ (.head _))
      · exact Nat.ne_of_gt (hr1 _ (.tail _ (.head _)))
      · exact Nat.ne_of_gt (hr1 _ (.tail _ (.tail _ (.head _))))
    · rw [List.take_add_one, List.getElem?_eq_getElem hix]
      show DatAll _ _ (duesD 0 (xs.take i ++ [xs[i]]))
      rw [duesD_snoc]
      refine (j1.mono fun q hq => List.mem_cons_of_mem _ hq).append (.one (.tuple (vs := [y1, y2, .str ⟨#[(xs[i]).b0, (xs[i]).b1]⟩ tb, .bool false]) (.head _) ((hy.mono fun q hq => .tail _ (List.mem_append_right _ hq)).append (.cons (.str _ _) (.cons (.bool _) .nil)))))
    · intro q hq z hz
      rcases List.mem_cons.mp hq with rfl | hq
      · exact hr1 z (up z hz)
      · exact j2 q hq z hz
  · rintro D h tk zs nx ⟨tl, rfl, j1, j2⟩ F4 N4 off4
    rw [List.size_toArray, hvl, List.take_of_length_le (Nat.le_refl _)] at j1
    exact K D zs tl h tk j1 j2 (fun z hz => off1_mem off4 z (List.mem_append_right _ hz)) F4 N4

theorem end_strOk {e : Str} (h : endOk e = true) : PyData.strOk e = true := by
  unfold endOk at h
  simp only [Bool.and_eq_true] at h
  exact h.1.2
theorem marks_ok : ∀ (es : List Str) (k : Nat), (∀ e ∈ es, PyData.strOk e = true) → ∀ d ∈ marksD k es, okB 5 d = true
  | [], _, _, _, hd => nomatch hd
  | e :: es, k, h, d, hd => by
    unfold marksD at hd
    split at hd
    · rcases List.mem_cons.mp hd with rfl | hd
      · rfl
      · exact marks_ok es k (fun e he => h e (.tail _ he)) d hd
    · rcases List.mem_cons.mp hd with rfl | hd
      · simp [okB, h e (.head _)]
      · exact marks_ok es (k + 1) (fun e he => h e (.tail _ he)) d hd
theorem sides_ok {x : Span} (h : spanOk x = true) : ∀ e ∈ x.sides, PyData.strOk e = true := by
  obtain ⟨_, _, h2, h3⟩ := ok_parts h
  intro e he
  simp only [Span.sides, List.mem_cons, List.not_mem_nil, or_false] at he
  rcases he with rfl | rfl
  · exact end_strOk h2
  · exact end_strOk h3
theorem dues_ok : ∀ (xs : List Span) (k : Nat), (∀ x ∈ xs, spanOk x = true) → ∀ d ∈ duesD k xs, okB 6 d = true
  | [], _, _, _, hd => nomatch hd
  | x :: xs, k, h, d, hd => by
    unfold duesD at hd
    rcases List.mem_cons.mp hd with rfl | hd
    · have m := marks_ok x.sides k (sides_ok (h x (.head _)))
      unfold dueD
      simp only [okB, List.all_eq_true, List.mem_append, List.mem_cons, List.not_mem_nil, or_false]
      rintro d (hd | rfl | rfl)
      · exact m d hd
      · exact bounds_ok (h x (.head _))
      · rfl
    · exact dues_ok xs _ (fun y hy => h y (.tail _ hy)) d hd
theorem ends_ok {xs : List Span} (h : ∀ x ∈ xs, spanOk x = true) : ∀ e ∈ endsOf xs, PyData.strOk e = true := by
  intro e he
  unfold endsOf heardOf at he
  obtain ⟨he, _⟩ := List.mem_filter.mp he
  obtain ⟨x, hx, hxe⟩ := List.mem_flatMap.mp he
  exact sides_ok (h x hx) e hxe
theorem endsD_ok {xs : List Span} (h : ∀ x ∈ xs, spanOk x = true) : ∀ d ∈ (endsOf xs).map Dat.str, okB 6 d = true := by
  intro d hd
  obtain ⟨e, he, rfl⟩ := List.mem_map.mp hd
  exact ends_ok h e he
theorem goG_zero (xs : List Span) (x : Span) : goG 0 xs x = true := by
  unfold goG
  refine decide_eq_true fun h => ?_
  have := h.1
  omega
theorem multi_fn {Z : Led} {f q : Addr} (h : MultiIn Z f q) : ∃ qc qd fd qs, (f, (⟨qc, qd, .func fd, qs⟩ : Obj)) ∈ Z := by
  obtain ⟨_, _, _, _, _, _, _, _, _, m1, _⟩ := h
  exact ⟨_, _, _, _, m1⟩
theorem range_fn {Z : Led} {g q : Addr} (h : RangeIn Z g q) : ∃ qc qd fd qs, (g, (⟨qc, qd, .func fd, qs⟩ : Obj)) ∈ Z := by
  obtain ⟨_, _, _, _, _, _, _, _, _, m1, _⟩ := h
  exact ⟨_, _, _, _, m1⟩

set_option maxHeartbeats 2000000 in
theorem law6 {w : World} {p : Program} {loose : List Str} {mean : ExcName → Option Value} {mg mb : Str → Option Value}
    {dp un : Nat} {gd : Option (List Code)} {fa cT : Addr} {cd : Value} {outer : List Env} {A₀ : Around} {base h₀ : Heap} {L : Addr} {m : Str → Option Value} {s : Shared} {Q : Flow → Shared → Prop} {E : Value → Shared → Prop}
    {o1 o2 o3 : Obj} {du en : Addr} {dvs evs : List Value} {nd ne : Nat} {Z : Led} {xs : List Span} {data : Str} {tt : Tok}
    (AT : At w p loose mean mg mb (fnScope lawDef) outer A₀ base h₀ L m s.heap (tabs o1 o2 o3 ++ Z)) (hT : Tab3 o1 o2 o3 Z)
    (hdu : (du, listOf dvs.toArray nd) ∈ Z) (hdv : DatAll Z dvs (duesD 0 xs)) (hen : (en, listOf evs.toArray ne) ∈ Z) (hev : StrsAre evs (endsOf xs)) (hl : xs.length ≤ 5) (hok : ∀ x ∈ xs, spanOk x = true)
    (hm1 : m (Str.ofString "text") = some (.str data tt)) (hm2 : m (Str.ofString "due") = some (.ref du)) (hm3 : m (Str.ofString "ends") = some (.ref en)) (hscan : scan data.cps.toList = (false, [], xs.map Span.codes)) (hdl : data.length ≤ 900)
    (hdp : dp + 100 < recursionLimit) (hun : un + 1000 < cLine)
    (K : ∀ (Z' : Led) o1' o2' o3' m' h' tk', (∀ q ∈ Z, q ∈ Z') → Tab3 o1' o2' o3' Z' → (∀ y, y ≠ Str.ofString "told" → y ≠ Str.ofString "heard" → m' y = m y) → Fr h₀ L h' m' → News h₀ L h' (tabs o1' o2' o3' ++ Z') →
      wpAny (model PySem.Challenge.rw_ej5023_01.row.prog w) (ktrTop dp un gd lawQ (fnScope lawDef) L fa cd [(tx, cT)] outer) (execs ((fnBody lawDef).drop 16) (envX lawQ (fnScope lawDef) L fa cd [(tx, cT)])) Q E { s with heap := h', toks := tk' }) :
    wpAny (model PySem.Challenge.rw_ej5023_01.row.prog w) (ktrTop dp un gd lawQ (fnScope lawDef) L fa cd [(tx, cT)] outer) (execs ((fnBody lawDef).drop 13) (envX lawQ (fnScope lawDef) L fa cd [(tx, cT)])) Q E s := by
  obtain ⟨B, F, X, T, hk, N, C1, C2, C3⟩ := AT
  obtain ⟨t1, t2, t3, tz⟩ := hT
  w_top off; revert X; k_fill; intro X
  conv in (fnBody lawDef).drop 13 => whnf
  repeat' ((fail_if_success (with_reducible show wpAny _ _ (call (Value.ref 92) _ _) _ _ _)); first | (k_unfold; (try dsimp only)) | (k_end; wrow_close) | walk1 | (dsimp only; walk1) | (leave1; walk_say "STEP leave1"; try dsimp only) | fail "no step")
  (rename Fr h₀ L _ _ => F1)
  (rename News h₀ L _ ((_, _) :: _) => N1)
  (rename (∀ p ∈ tabs o1 o2 o3 ++ Z, p.1 < _) => fr1)
  rename_i ha h1 h2
  have ha3 : ha ≠ 87 ∧ ha ≠ 64 ∧ ha ≠ 57 := ⟨Nat.ne_of_gt (fr1 _ (.head _)), Nat.ne_of_gt (fr1 _ (.tail _ (.head _))), Nat.ne_of_gt (fr1 _ (.tail _ (.tail _ (.head _))))⟩
  refine l92 (s := { s with heap := _, toks := _ }) ⟨B, F1, X, T, hk, N1, C1, C2, C3⟩ ⟨t1, t2, t3, tz⟩ ha3 (by omega) (by omega) ?_
  intro rd U1 o1' h3 k3 hrd hT1 fr2 F2 N2
  clear F1 N1
  repeat' ((fail_if_success (with_reducible show wpAny _ _ (call (Value.ref 62) _ _) _ _ _)); first | (k_unfold; (try dsimp only)) | (k_end; wrow_close) | walk1 | (dsimp only; walk1) | (leave1; walk_say "STEP leave1"; try dsimp only) | fail "no step")
  refine l62 (s := { s with heap := _, toks := _ }) ⟨B, F2, X, T, hk, N2, C1, C2, C3⟩ hT1 ha3 (by omega) (by omega) ?_
  intro g U2 o3' h4 k4 hG hT2 fr3 F3 N3
  clear F2 N2
  repeat' ((fail_if_success (with_reducible show wpAny _ _ (call (Value.ref 69) _ _) _ _ _)); first | (k_unfold; (try dsimp only)) | (k_end; wrow_close) | walk1 | (dsimp only; walk1) | (leave1; walk_say "STEP leave1"; try dsimp only) | fail "no step")
  refine l69 (s := { s with heap := _, toks := _ }) ⟨B, F3, X, T, hk, N3, C1, C2, C3⟩ hT2 ha3 (by omega) (by omega) ?_
  intro f U3 o2' h5 k5 hM hT3 fr4 F4 N4
  clear F3 N3
  have hFf : FnAt f h5 := by
    obtain ⟨_, _, _, _, mf⟩ := multi_fn hM
    exact FnAt.of N4 (.tail _ (List.mem_append_right _ mf))
  refine callWith_F hFf ?_
  repeat' ((fail_if_success (with_reducible show FnAt _ _ ∧ _)); first | (k_unfold; (try dsimp only)) | walk1 | (dsimp only; walk1) | fail "no step")
  refine ⟨hFf, ?_⟩
  have up1 : ∀ q ∈ U1 ++ Z, q ∈ U3 ++ (U2 ++ (U1 ++ Z)) := fun q hq => List.mem_append_right _ (List.mem_append_right _ hq)
  have up2 : ∀ q ∈ U2 ++ (U1 ++ Z), q ∈ U3 ++ (U2 ++ (U1 ++ Z)) := fun q hq => List.mem_append_right _ hq
  have hrd2 : RdIn (U3 ++ (U2 ++ (U1 ++ Z))) rd ha 0 := hrd.mono up1
  obtain ⟨qc, qd, fd, qs, hqf⟩ := range_fn hG
  obtain ⟨cE, c', oE, oc, vc, doc, pm, ct, tc, g1, g2, g3, g4, g5, g6⟩ := hG
  have hhaZ : ∀ p ∈ U3 ++ (U2 ++ (U1 ++ Z)), p.1 ≠ ha := by
    intro q hq
    simp only [List.mem_append] at hq
    rcases hq with hq | hq | hq | hq
    · exact Nat.ne_of_gt (fr4 q hq _ (.head _))
    · exact Nat.ne_of_gt (fr3 q hq _ (.head _))
    · exact Nat.ne_of_gt (fr2 q hq _ (.head _))
    · exact Nat.ne_of_lt (fr1 q (List.mem_append_right _ hq))
  generalize hW : U3 ++ (U2 ++ (U1 ++ Z)) = W at *
  have mZW : ∀ q ∈ Z, q ∈ W := fun q hq => by rw [← hW]; exact List.mem_append_right _ (List.mem_append_right _ (List.mem_append_right _ hq))
  have hhaW : ∀ p ∈ tabs o1' o2' o3' ++ W, p.1 ≠ ha := by
    intro q hq
    simp only [List.mem_append, List.mem_cons, List.not_mem_nil, or_false] at hq
    rcases hq with (rfl | rfl | rfl) | hq
    · exact Ne.symm ha3.1
    · exact Ne.symm ha3.2.1
    · exact Ne.symm ha3.2.2
    · exact hhaZ q hq
  refine told_c (s := { s with heap := h5, toks := _ }) (Z := W) (spans := xs) (Inv := GInv w.params ha W) (d := 20) (u := 200) (qc := qc) (qd := qd) (fd := fd) (qs := qs) ⟨B, F4, X, T, hk, N4, C1, C2, C3⟩ hM hhaW (fun R ys vs h => ?_) (fun R ys vs h => ?_) ⟨[], [], 0, rfl, .nil, trivial, fun _ h => nomatch h⟩ (fun R ys vs h => ?_) (range_rd (up2 _ g1) (up2 _ g2) (up2 _ g3) g4 g5 g6 hrd2 hhaZ) hscan hdl (by omega) hok (fun j hj => goG_zero _ _) (by omega) (by omega) ?_
  · obtain ⟨tl, hs, n, rfl, _⟩ := h
    exact .tail _ (List.mem_append_right _ (up2 _ hqf))
  · obtain ⟨tl, hs, n, rfl, _, hD, _⟩ := h
    exact hD.length
  · obtain ⟨tl, hs, n, rfl, _⟩ := h
    exact ⟨_, .head _⟩
  · rintro r vs R' n h6 k6 ⟨tl, hs, n', rfl, q1, q2, q3⟩ F5 N5 hr1 hr2
    have hr87 : ∀ z ∈ tabs o1' o2' o3' ++ W, z.1 < r := fun z hz => hr2 z (.tail _ hz)
    have N6 : News h₀ L h6 (tabs o1' o2' o3' ++ ((r, listOf vs.toArray n) :: (ha, listOf hs.toArray n') :: (tl ++ W))) := news_sub N5 fun q hq => by
      simp only [List.mem_append, List.mem_cons, List.not_mem_nil, or_false] at hq ⊢
      rcases hq with h | h | h | h | h <;> simp [h]
    have hT5 : Tab3 o1' o2' o3' ((r, listOf vs.toArray n) :: (ha, listOf hs.toArray n') :: (tl ++ W)) := by
      have upZ : ∀ q ∈ W, q ∈ (r, listOf vs.toArray n) :: (ha, listOf hs.toArray n') :: (tl ++ W) := fun q hq => .tail _ (.tail _ (List.mem_append_right _ hq))
      refine ⟨hT3.1.mono upZ, hT3.2.1.mono upZ, hT3.2.2.1.mono upZ, fun q hq => ?_⟩
      simp only [List.mem_cons, List.mem_append] at hq
      rcases hq with rfl | rfl | hq | hq
      · exact ⟨Nat.ne_of_gt (hr87 _ (.head _)), Nat.ne_of_gt (hr87 _ (.tail _ (.head _))), Nat.ne_of_gt (hr87 _ (.tail _ (.tail _ (.head _))))⟩
      · exact ha3
      · exact ⟨Nat.ne_of_gt (Nat.lt_trans (fr1 _ (.head _)) (q3 q hq)), Nat.ne_of_gt (Nat.lt_trans (fr1 _ (.tail _ (.head _))) (q3 q hq)), Nat.ne_of_gt (Nat.lt_trans (fr1 _ (.tail _ (.tail _ (.head _)))) (q3 q hq))⟩
      · exact hT3.2.2.2 q hq
    generalize hZq : ((r, listOf vs.toArray n) :: (ha, listOf hs.toArray n') :: (tl ++ W) : Led) = Zq at N6 hT5
    have mR : (r, listOf vs.toArray n) ∈ Zq := by rw [← hZq]; exact .head _
    have mH : (ha, listOf hs.toArray n') ∈ Zq := by rw [← hZq]; exact .tail _ (.head _)
    have mT : ∀ q ∈ tl, q ∈ Zq := fun q hq => by rw [← hZq]; exact .tail _ (.tail _ (List.mem_append_left _ hq))
    have mZ : ∀ q ∈ Z, q ∈ Zq := fun q hq => by rw [← hZq]; exact .tail _ (.tail _ (List.mem_append_right _ (mZW q hq)))
    clear hZq N5 hr1 hr2 hhaW hhaZ N4 F4 hrd hrd2 hM hT1 hT2 hT3 fr4 fr3 fr2 fr1 up1 up2 g1 g2 g3 hqf hFf
    repeat' ((fail_if_success (with_reducible show wpAny _ _ (eval (Expr.ListComp _ _ _ _) _) _ _ _)); first | (k_unfold; (try dsimp only)) | (k_end; wrow_close) | walk1 | (dsimp only; walk1) | (leave1; walk_say "STEP leave1"; try dsimp only) | fail "no step")
    (rename Fr h₀ L _ _ => F6)
    (rename News h₀ L _ (tabs o1' o2' o3' ++ Zq) => N7)
    have inW : ∀ q ∈ Zq, q ∈ tabs o1' o2' o3' ++ Zq := fun q hq => List.mem_append_right _ hq
    refine p1_list (s := { s with heap := _, toks := _ }) (r := r) (vs := vs) (n := n) (xs := xs) ⟨B, F6, X, T, hk, N7, C1, C2, C3⟩ rfl (inW _ mR) (q2.mono fun q hq => inW _ (mT q hq)) hl (by omega) (by omega) ?_
    intro D zs tl2 h7 k7 j1 j2 j3 F7 N8
    have in7 : ∀ q ∈ Zq, q ∈ (D, LCg.lst zs) :: (tl2 ++ (tabs o1' o2' o3' ++ Zq)) := fun q hq => .tail _ (List.mem_append_right _ (inW q hq))
    clear F6 N7
    repeat' ((fail_if_success (with_reducible show wpAny _ _ (compareOp _ (Value.ref _) (Value.ref _)) _ _ _)); (fail_if_success (with_reducible show wpAny _ _ (execs (Stmt.Assign _ (Expr.List _ _) _ :: _) _) _ _ _)); first | (k_unfold; (try dsimp only)) | (k_end; wrow_close) | walk1 | (dsimp only; walk1) | (leave1; walk_say "STEP leave1"; try dsimp only) | fail "no step")
    refine same_ne (s := { s with heap := h7, toks := _ }) N8 (.head _) j1 (fun q hq => .tail _ hq) (in7 _ (mZ _ hdu)) hdv (fun q hq => in7 _ (mZ q hq)) (dues_ok xs 0 hok) (by simp only []; omega) ?_
    repeat' ((fail_if_success (with_reducible show wpAny _ _ (compareOp _ (Value.ref _) (Value.ref _)) _ _ _)); (fail_if_success (with_reducible show wpAny _ _ (execs (Stmt.Assign _ (Expr.List _ _) _ :: _) _) _ _ _)); first | (k_unfold; (try dsimp only)) | (k_end; wrow_close) | walk1 | (dsimp only; walk1) | (leave1; walk_say "STEP leave1"; try dsimp only) | fail "no step")
    refine same_ne (s := { s with heap := h7, toks := _ }) N8 (in7 _ mH) (strs_dat q1) (fun q hq => nomatch hq) (in7 _ (mZ _ hen)) (strs_dat hev) (fun q hq => nomatch hq) (endsD_ok hok) (by simp only []; omega) ?_
    repeat' ((fail_if_success (with_reducible show wpAny _ _ (execs (Stmt.Assign _ (Expr.List _ _) _ :: _) _) _ _ _)); first | (k_unfold; (try dsimp only)) | (k_end; wrow_close) | walk1 | (dsimp only; walk1) | (leave1; walk_say "STEP leave1"; try dsimp only) | fail "no step")
    refine K Zq o1' o2' o3' _ _ _ mZ hT5 (fun y e1 e2 => ?_) F7 (news_sub N8 fun q hq => .tail _ (List.mem_append_right _ hq))
    rw [if_neg e1, if_neg e2]

set_option maxHeartbeats 2000000 in
theorem law7 {w : World} {p : Program} {loose : List Str} {mean : ExcName → Option Value} {mg mb : Str → Option Value}
    {dp un : Nat} {gd : Option (List Code)} {fa cT : Addr} {cd : Value} {outer : List Env} {A₀ : Around} {base h₀ : Heap} {L : Addr} {m : Str → Option Value} {s : Shared} {Q : Flow → Shared → Prop} {E : Value → Shared → Prop}
    {o1 o2 o3 : Obj} {Z : Led}
    (AT : At w p loose mean mg mb (fnScope lawDef) outer A₀ base h₀ L m s.heap (tabs o1 o2 o3 ++ Z)) (hT : Tab3 o1 o2 o3 Z)
    (hdp : dp + 100 < recursionLimit) (hun : un + 1000 < cLine)
    (K : ∀ (Z' : Led) ha n' o1' o2' m' h' tk', (∀ q ∈ Z, q ∈ Z') → Tab3 o1' o2' o3 Z' → (∀ q ∈ tabs o1' o2' o3 ++ Z', q.1 ≠ ha) → @LT.lt Nat _ 87 ha → m' (Str.ofString "heard") = some (.ref ha) → (∀ y, y ≠ Str.ofString "heard" → m' y = m y) → Fr h₀ L h' m' → News h₀ L h' ((ha, listOf #[] n') :: (tabs o1' o2' o3 ++ Z')) →
      wpAny (model PySem.Challenge.rw_ej5023_01.row.prog w) (ktrTop dp un gd lawQ (fnScope lawDef) L fa cd [(tx, cT)] outer) (execs ((fnBody lawDef).drop 18) (envX lawQ (fnScope lawDef) L fa cd [(tx, cT)])) Q E { s with heap := h', toks := tk' }) :
    wpAny (model PySem.Challenge.rw_ej5023_01.row.prog w) (ktrTop dp un gd lawQ (fnScope lawDef) L fa cd [(tx, cT)] outer) (execs ((fnBody lawDef).drop 16) (envX lawQ (fnScope lawDef) L fa cd [(tx, cT)])) Q E s := by
  obtain ⟨B, F, X, T, hk, N, C1, C2, C3⟩ := AT
  obtain ⟨t1, t2, t3, tz⟩ := hT
  w_top off; revert X; k_fill; intro X
  conv in (fnBody lawDef).drop 16 => whnf
  repeat' ((fail_if_success (with_reducible show wpAny _ _ (call (Value.ref 92) _ _) _ _ _)); first | (k_unfold; (try dsimp only)) | (k_end; wrow_close) | walk1 | (dsimp only; walk1) | (leave1; walk_say "STEP leave1"; try dsimp only) | fail "no step")
  (rename Fr h₀ L _ _ => F1)
  (rename News h₀ L _ ((_, _) :: _) => N1)
  (rename (∀ p ∈ tabs o1 o2 o3 ++ Z, p.1 < _) => fr1)
  rename_i ha h1 h2
  have ha3 : ha ≠ 87 ∧ ha ≠ 64 ∧ ha ≠ 57 := ⟨Nat.ne_of_gt (fr1 _ (.head _)), Nat.ne_of_gt (fr1 _ (.tail _ (.head _))), Nat.ne_of_gt (fr1 _ (.tail _ (.tail _ (.head _))))⟩
  refine l92 (s := { s with heap := _, toks := _ }) ⟨B, F1, X, T, hk, N1, C1, C2, C3⟩ ⟨t1, t2, t3, tz⟩ ha3 (by omega) (by omega) ?_
  intro rd U1 o1' h3 k3 hrd hT1 fr2 F2 N2
  clear F1 N1
  repeat' ((fail_if_success (with_reducible show wpAny _ _ (call (Value.ref 69) _ _) _ _ _)); first | (k_unfold; (try dsimp only)) | (k_end; wrow_close) | walk1 | (dsimp only; walk1) | (leave1; walk_say "STEP leave1"; try dsimp only) | fail "no step")
  refine l69 (s := { s with heap := _, toks := _ }) ⟨B, F2, X, T, hk, N2, C1, C2, C3⟩ hT1 ha3 (by omega) (by omega) ?_
  intro f U2 o2' h4 k4 hM hT2 fr3 F3 N3
  clear F2 N2
  have hFf : FnAt f h4 := by
    obtain ⟨_, _, _, _, _, _, _, _, _, m1, _⟩ := hM
    exact FnAt.of N3 (.tail _ (List.mem_append_right _ m1))
  refine callWith_F hFf ?_
  repeat' ((fail_if_success (with_reducible show FnAt _ _ ∧ _)); first | (k_unfold; (try dsimp only)) | walk1 | (dsimp only; walk1) | fail "no step")
  refine ⟨hFf, ?_⟩
  have hrd2 : RdIn (U2 ++ (U1 ++ Z)) rd ha 0 := hrd.mono fun q hq => List.mem_append_right _ hq
  have hhaZ : ∀ p ∈ U2 ++ (U1 ++ Z), p.1 ≠ ha := by
    intro q hq
    rcases List.mem_append.mp hq with hq | hq
    · exact Nat.ne_of_gt (fr3 q hq _ (.head _))
    · rcases List.mem_append.mp hq with hq | hq
      · exact Nat.ne_of_gt (fr2 q hq _ (.head _))
      · exact Nat.ne_of_lt (fr1 q (List.mem_append_right _ hq))
  have hhaW : ∀ p ∈ tabs o1' o2' o3 ++ (U2 ++ (U1 ++ Z)), p.1 ≠ ha := by
    intro q hq
    simp only [List.mem_append, List.mem_cons, List.not_mem_nil, or_false] at hq
    rcases hq with (rfl | rfl | rfl) | hq
    · exact Ne.symm ha3.1
    · exact Ne.symm ha3.2.1
    · exact Ne.symm ha3.2.2
    · exact hhaZ q (by simpa only [List.mem_append] using hq)
  obtain ⟨qc, qd, fd, qs, hqf⟩ := rd_fn hrd2
  refine told_c (s := { s with heap := h4, toks := _ }) (Z := U2 ++ (U1 ++ Z)) (spans := []) (Inv := LInv Span.text ha (U2 ++ (U1 ++ Z))) (d := 1) (u := 8) (qc := qc) (qd := qd) (fd := fd) (qs := qs) ⟨B, F3, X, T, hk, N3, C1, C2, C3⟩ hM hhaW (fun R ys vs h => ?_) (fun R ys vs h => ?_) ⟨[], [], 0, rfl, .nil, .nil, fun _ h => nomatch h⟩ (fun R ys vs h => ?_) (listener_rd Span.text spanOk 8 (by omega) hrd2 hhaZ) scan_none (by decide +kernel) (by simp) (fun _ h => nomatch h) (fun j hj => absurd hj (Nat.not_lt_zero _)) (by omega) (by omega) ?_
  · obtain ⟨tl, hs, n, rfl, _⟩ := h
    exact .tail _ (List.mem_append_right _ hqf)
  · obtain ⟨tl, hs, n, rfl, _, hD, _⟩ := h
    rw [hD.length]; simp [toldD]
  · obtain ⟨tl, hs, n, rfl, _⟩ := h
    exact ⟨_, .head _⟩
  · rintro r vs R' n h5 k5 ⟨tl, hs, n', rfl, q1, q2, q3⟩ F4 N4 hr1 hr2
    cases q1
    cases q2
    have hr87 : ∀ z ∈ tabs o1' o2' o3 ++ (U2 ++ (U1 ++ Z)), z.1 < r := fun z hz => hr2 z (.tail _ hz)
    have hrh : @LT.lt Nat _ ha r := hr2 (ha, listOf #[] 0) (.head _)
    have N5 : News h₀ L h5 ((ha, listOf #[] n') :: (tabs o1' o2' o3 ++ ((r, listOf #[] n) :: (tl ++ (U2 ++ (U1 ++ Z)))))) := news_sub N4 fun q hq => by
      simp only [List.mem_append, List.mem_cons, List.not_mem_nil, or_false] at hq ⊢
      rcases hq with h | h | h | h | h | h | h <;> simp [h]
    have hT5 : Tab3 o1' o2' o3 ((r, listOf #[] n) :: (tl ++ (U2 ++ (U1 ++ Z)))) := by
      have upZ : ∀ q ∈ U2 ++ (U1 ++ Z), q ∈ (r, listOf #[] n) :: (tl ++ (U2 ++ (U1 ++ Z))) := fun q hq => .tail _ (List.mem_append_right _ hq)
      refine ⟨hT2.1.mono upZ, hT2.2.1.mono upZ, hT2.2.2.1.mono upZ, fun q hq => ?_⟩
      simp only [List.mem_cons, List.mem_append] at hq
      rcases hq with rfl | hq | hq
      · exact ⟨Nat.ne_of_gt (hr87 _ (.head _)), Nat.ne_of_gt (hr87 _ (.tail _ (.head _))), Nat.ne_of_gt (hr87 _ (.tail _ (.tail _ (.head _))))⟩
      · exact ⟨Nat.ne_of_gt (Nat.lt_trans (fr1 _ (.head _)) (q3 q hq)), Nat.ne_of_gt (Nat.lt_trans (fr1 _ (.tail _ (.head _))) (q3 q hq)), Nat.ne_of_gt (Nat.lt_trans (fr1 _ (.tail _ (.tail _ (.head _)))) (q3 q hq))⟩
      · exact hT2.2.2.2 q (by simpa only [List.mem_append] using hq)
    have hh5 : ∀ p ∈ tabs o1' o2' o3 ++ ((r, listOf #[] n) :: (tl ++ (U2 ++ (U1 ++ Z)))), p.1 ≠ ha := by
      intro q hq
      rcases List.mem_append.mp hq with h | h
      · exact hhaW q (List.mem_append_left _ h)
      · rcases List.mem_cons.mp h with rfl | h
        · exact Nat.ne_of_gt hrh
        · rcases List.mem_append.mp h with h | h
          · exact Nat.ne_of_gt (q3 q h)
          · exact hhaZ q h
    clear N4 hr1 hr2 hhaW hhaZ N3 F3 hrd hrd2 hM hT1 hT2
    generalize hZq : ((r, listOf #[] n) :: (tl ++ (U2 ++ (U1 ++ Z))) : Led) = Zq at N5 hT5 hh5
    have mR : (r, listOf #[] n) ∈ Zq := by rw [← hZq]; exact .head _
    have mZ : ∀ q ∈ Z, q ∈ Zq := fun q hq => by rw [← hZq]; exact .tail _ (List.mem_append_right _ (List.mem_append_right _ (List.mem_append_right _ hq)))
    clear hZq
    repeat' ((fail_if_success (with_reducible show wpAny _ _ (compareOp _ (Value.ref _) (Value.ref _)) _ _ _)); first | (k_unfold; (try dsimp only)) | (k_end; wrow_close) | walk1 | (dsimp only; walk1) | (leave1; walk_say "STEP leave1"; try dsimp only) | fail "no step")
    (rename News h₀ L _ ((_, _) :: (ha, _) :: _) => N6)
    refine same_ne (s := { s with heap := _, toks := _ }) N6 (.tail _ (.tail _ (List.mem_append_right _ mR))) (xs := []) (n₁ := []) (ds := []) .nil (fun q hq => nomatch hq) (.head _) (ys := []) (n₂ := []) .nil (fun q hq => nomatch hq) (fun _ h => nomatch h) (by simp only []; omega) ?_
    repeat' ((fail_if_success (with_reducible show wpAny _ _ (compareOp _ (Value.ref _) (Value.ref _)) _ _ _)); first | (k_unfold; (try dsimp only)) | (k_end; wrow_close) | walk1 | (dsimp only; walk1) | (leave1; walk_say "STEP leave1"; try dsimp only) | fail "no step")
    (rename News h₀ L _ ((_, _) :: (_, _) :: (ha, _) :: _) => N7)
    refine same_ne (s := { s with heap := _, toks := _ }) N7 (.tail _ (.tail _ (.head _))) (xs := []) (n₁ := []) (ds := []) .nil (fun q hq => nomatch hq) (.head _) (ys := []) (n₂ := []) .nil (fun q hq => nomatch hq) (fun _ h => nomatch h) (by simp only []; omega) ?_
    repeat' ((fail_if_success (with_reducible show wpAny _ _ (execs (Stmt.Assign _ (Expr.Call _ _ _ _) _ :: _) _) _ _ _)); first | (k_unfold; (try dsimp only)) | (k_end; wrow_close) | walk1 | (dsimp only; walk1) | (leave1; walk_say "STEP leave1"; try dsimp only) | fail "no step")
    (rename Fr h₀ L _ _ => F9)
    refine K Zq ha n' o1' o2' _ _ _ mZ hT5 hh5 (fr1 _ (.head _)) ?_ (fun y e1 => ?_) F9 (news_sub N7 fun q hq => .tail _ (.tail _ hq))
    · rfl
    · exact if_neg e1

section
variable {prog : Program} {w : World} {A : Around} {E : Value → Shared → Prop} {s : Shared} {h₀ : Heap} {L a b : Addr} {news n₁ n₂ : Led} {xs ys : List Value} {ka kb : Nat} {ds : List Dat} {Q : Value → Shared → Prop}
theorem sameT_parts (N : News h₀ L s.heap news) (ma : (a, ({ cls := .type "tuple", data := .seq xs.toArray ka } : Obj)) ∈ news) (Da : DatAll n₁ xs ds) (sa : ∀ p ∈ n₁, p ∈ news) (ha : ∀ d ∈ ds, okB 6 d = true) :
    (∃ as, Reads s.heap (.ref a) (.tuple (kqdPs ds)) as) ∧ SeqAt.shaped (.tuple (kqdPs ds)) = true ∧ PyData.eqv (.tuple (kqdPs ds)) (.tuple (kqdPs ds)) = true := by
  obtain ⟨as, ra⟩ := datB_all N 6 (Da.mono sa) ha
  have la := layB 7 (.tuple ds) (by simpa [okB] using ha)
  have lr := reflB 7 (.tuple ds) (by simpa [okB] using ha)
  rw [kqdP] at la lr
  refine ⟨⟨_, reads_tuple_at (N.get ma) rfl rfl (by simpa using ra)⟩, ?_, lr⟩
  unfold SeqAt.shaped; rw [la.1, Bool.true_and]; exact decide_eq_true (Nat.le_trans la.2 (by decide))
theorem sameT_ne (N : News h₀ L s.heap news) (ma : (a, ({ cls := .type "tuple", data := .seq xs.toArray ka } : Obj)) ∈ news) (Da : DatAll n₁ xs ds) (sa : ∀ p ∈ n₁, p ∈ news) (mb : (b, ({ cls := .type "tuple", data := .seq ys.toArray kb } : Obj)) ∈ news) (Db : DatAll n₂ ys ds) (sb : ∀ p ∈ n₂, p ∈ news)
    (ha : ∀ d ∈ ds, okB 6 d = true) (hu : A.units + 64 < cLine) (h : Q (.bool false) s) : wpAny (model prog w) A (compareOp .NotEq (.ref a) (.ref b)) Q E s := by
  obtain ⟨⟨as, ra⟩, s1, e⟩ := sameT_parts N ma Da sa ha
  obtain ⟨⟨bs, rb⟩, _, _⟩ := sameT_parts N mb Db sb ha
  exact ne_dataH ra rb s1 s1 hu (by rw [e]; exact h)
end
theorem RangeIn.mono {a b : Led} {g rd : Addr} (h : RangeIn a g rd) (hs : ∀ p ∈ a, p ∈ b) : RangeIn b g rd := by
  obtain ⟨cE, c', oE, oc, vc, doc, pm, ct, tc, g1, g2, g3, r⟩ := h
  exact ⟨cE, c', oE, oc, vc, doc, pm, ct, tc, hs _ g1, hs _ g2, hs _ g3, r⟩
set_option maxHeartbeats 2000000 in
theorem law8 {w : World} {p : Program} {loose : List Str} {mean : ExcName → Option Value} {mg mb : Str → Option Value}
    {dp un : Nat} {gd : Option (List Code)} {fa cT : Addr} {cd : Value} {A₀ : Around} {base h₀ : Heap} {L : Addr} {m : Str → Option Value} {s : Shared} {Q : Flow → Shared → Prop} {E : Value → Shared → Prop}
    {o1 o2 o3 : Obj} {Z : Led} {ha : Addr} {n0 : Nat}
    (AT : At w p loose mean mg mb (fnScope lawDef) [] A₀ base h₀ L m s.heap ((ha, listOf #[] n0) :: (tabs o1 o2 o3 ++ Z))) (hT : Tab3 o1 o2 o3 Z)
    (XB : (Mine.hd.heap_39 w.params).In base) (TB : Top p loose mean mg mb base)
    (hha : ∀ q ∈ tabs o1 o2 o3 ++ Z, q.1 ≠ ha) (hlt : @LT.lt Nat _ 87 ha) (hm : m (Str.ofString "heard") = some (.ref ha))
    (hdp : dp + 100 < recursionLimit) (hun : un + 1000 < cLine)
    (K : ∀ (Z' : Led) o1' o3' m' h' tk', (∀ q ∈ Z, q ∈ Z') → Tab3 o1' o2 o3' Z' → (∀ y, y ≠ Str.ofString "reader" → m' y = m y) → Fr h₀ L h' m' → News h₀ L h' (tabs o1' o2 o3' ++ Z') →
      wpAny (model PySem.Challenge.rw_ej5023_01.row.prog w) (ktrTop dp un gd lawQ (fnScope lawDef) L fa cd [(tx, cT)] []) (execs ((fnBody lawDef).drop 21) (envX lawQ (fnScope lawDef) L fa cd [(tx, cT)])) Q E { s with heap := h', toks := tk' }) :
    wpAny (model PySem.Challenge.rw_ej5023_01.row.prog w) (ktrTop dp un gd lawQ (fnScope lawDef) L fa cd [(tx, cT)] []) (execs ((fnBody lawDef).drop 18) (envX lawQ (fnScope lawDef) L fa cd [(tx, cT)])) Q E s := by
  obtain ⟨B, F, X, T, hk, N, C1, C2, C3⟩ := AT
  w_top off; revert X; k_fill; intro X
  have ha3 : ha ≠ 87 ∧ ha ≠ 64 ∧ ha ≠ 57 := ⟨Nat.ne_of_gt hlt, Nat.ne_of_gt (Nat.lt_trans (show @LT.lt Nat _ 64 87 by decide) hlt), Nat.ne_of_gt (Nat.lt_trans (show @LT.lt Nat _ 57 87 by decide) hlt)⟩
  conv in (fnBody lawDef).drop 18 => whnf
  repeat' ((fail_if_success (with_reducible show wpAny _ _ (call (Value.ref 92) _ _) _ _ _)); first | (k_unfold; (try dsimp only)) | (k_end; wrow_close) | walk1 | (dsimp only; walk1) | (leave1; walk_say "STEP leave1"; try dsimp only) | fail "no step")
  refine l92 (s := { s with toks := _ }) ⟨B, F, X, T, hk, N, C1, C2, C3⟩ hT ha3 (by omega) (by omega) ?_
  intro rd U1 o1' h3 k3 hrd hT1 fr2 F2 N2
  clear N
  repeat' ((fail_if_success (with_reducible show wpAny _ _ (call (Value.ref 62) _ _) _ _ _)); first | (k_unfold; (try dsimp only)) | (k_end; wrow_close) | walk1 | (dsimp only; walk1) | (leave1; walk_say "STEP leave1"; try dsimp only) | fail "no step")
  refine l62 (s := { s with heap := _, toks := _ }) ⟨B, F2, X, T, hk, N2, C1, C2, C3⟩ hT1 ha3 (by omega) (by omega) ?_
  intro g U2 o3' h4 k4 hG hT2 fr3 F3 N3
  clear F2 N2
  have hrd2 : RdIn (U2 ++ (U1 ++ Z)) rd ha 0 := hrd.mono fun q hq => List.mem_append_right _ hq
  have mZ1 : ∀ q ∈ Z, q ∈ U2 ++ (U1 ++ Z) := fun q hq => List.mem_append_right _ (List.mem_append_right _ hq)
  have hhaZ : ∀ p ∈ tabs o1' o2 o3' ++ (U2 ++ (U1 ++ Z)), p.1 ≠ ha := by
    intro q hq
    simp only [List.mem_append, List.mem_cons, List.not_mem_nil, or_false] at hq
    rcases hq with (rfl | rfl | rfl) | hq | hq | hq
    · exact Ne.symm ha3.1
    · exact Ne.symm ha3.2.1
    · exact Ne.symm ha3.2.2
    · exact Nat.ne_of_gt (fr3 q hq _ (.head _))
    · exact Nat.ne_of_gt (fr2 q hq _ (.head _))
    · exact hha q (List.mem_append_right _ hq)
  generalize (U2 ++ (U1 ++ Z)) = W at *
  clear fr2 fr3 hT1
  obtain ⟨qc, qd, fd, qs, hqf⟩ := range_fn hG
  have inW : ∀ {o}, ∀ q ∈ W, q ∈ (ha, o) :: (tabs o1' o2 o3' ++ W) := fun q hq => .tail _ (List.mem_append_right _ hq)
  repeat' ((fail_if_success (with_reducible show wpAny _ _ (callWith _ (Value.ref g) _ _ _) _ _ _)); first | (k_unfold; (try dsimp only)) | (k_end; wrow_close) | walk1 | (dsimp only; walk1) | (leave1; walk_say "STEP leave1"; try dsimp only) | fail "no step")
  (rename News h₀ L _ ((ha, _) :: _) => N4)
  (rename Fr h₀ L _ _ => F4)
  have hFg : FnAt g _ := FnAt.of N4 (inW _ hqf)
  refine callWith_F hFg ?_
  repeat' ((fail_if_success (with_reducible show FnAt _ _ ∧ _)); first | (k_unfold; (try dsimp only)) | walk1 | (dsimp only; walk1) | fail "no step")
  refine ⟨hFg, ?_⟩
  refine g_empty (s := { s with heap := _, toks := _ }) ⟨B, F4, X, T, hk, N4, C1, C2, C3⟩ (hG.mono inW) (by omega) (by omega) ?_
  intro xo dx t1 t2 t3 t4 tb h5 k5 l1 l2 F5 N5
  clear F4 N4
  repeat' ((fail_if_success (with_reducible show wpAny _ _ (call (Value.ref 113) _ _) _ _ _)); first | (k_unfold; (try dsimp only)) | (k_end; wrow_close) | walk1 | (dsimp only; walk1) | (leave1; walk_say "STEP leave1"; try dsimp only) | fail "no step")
  refine plain_c (s := { s with heap := _, toks := _ }) ⟨B, F5, X, T, hk, N5, C1, C2, C3⟩ rfl rfl (.head _) (.tail _ (.head _)) (by omega) (by omega) ?_
  intro rt h6 k6 l3 F6 N6
  clear F5 N5
  repeat' ((fail_if_success (with_reducible show wpAny _ _ (compareOp _ (Value.ref _) (Value.ref _)) _ _ _)); first | (k_unfold; (try dsimp only)) | (k_end; wrow_close) | walk1 | (dsimp only; walk1) | (leave1; walk_say "STEP leave1"; try dsimp only) | fail "no step")
  (rename News h₀ L _ ((_, _) :: (rt, _) :: _) => N7)
  (rename Fr h₀ L _ _ => F7)
  (rename (rt < _ ∧ _) => lf7)
  refine sameT_ne (s := { s with heap := _, toks := _ }) N7 (.tail _ (.head _)) (xs := [.none, .none, .str (Str.ofString "[)") tb, .bool true]) (n₁ := []) (ds := [.none, .none, .str (Str.ofString "[)"), .bool true]) (.cons .none (.cons .none (.cons (.str _ _) (.cons (.bool _) .nil)))) (fun q hq => nomatch hq)
    (.head _) (ys := [.none, .none, .str (Str.ofString "[)") _, .bool true]) (n₂ := []) (.cons .none (.cons .none (.cons (.str _ _) (.cons (.bool _) .nil)))) (fun q hq => nomatch hq) (by decide +kernel) (by simp only []; omega) ?_
  repeat' ((fail_if_success (with_reducible show wpAny _ _ (compareOp _ (Value.ref _) (Value.ref _)) _ _ _)); first | (k_unfold; (try dsimp only)) | (k_end; wrow_close) | walk1 | (dsimp only; walk1) | (leave1; walk_say "STEP leave1"; try dsimp only) | fail "no step")
  (rename News h₀ L _ ((_, _) :: (_, _) :: (rt, _) :: _) => N8)
  (rename Fr h₀ L _ _ => F8)
  refine same_ne (s := { s with heap := _, toks := _ }) N8 (.tail _ (.tail _ (.tail _ (.tail _ (.tail _ (.head _)))))) (xs := []) (n₁ := []) (ds := []) .nil (fun q hq => nomatch hq) (.head _) (ys := []) (n₂ := []) .nil (fun q hq => nomatch hq) (fun _ h => nomatch h) (by simp only []; omega) ?_
  have N9 := news_sub (b := (ha, listOf ([] : List Value).toArray n0) :: (tabs o1' o2 o3' ++ W)) N8 fun q hq => .tail _ (.tail _ (.tail _ (.tail _ (.tail _ hq))))
  clear N8 l3 l1 l2
  repeat' ((fail_if_success (with_reducible show wpAny _ _ (call (Value.ref 106) _ _) _ _ _)); first | (k_unfold; (try dsimp only)) | (k_end; wrow_close) | walk1 | (dsimp only; walk1) | (leave1; walk_say "STEP leave1"; try dsimp only) | fail "no step")
  refine no_shape_c (s := { s with heap := _, toks := _ }) (front := []) (R₀ := tabs o1' o2 o3' ++ W) (hs := []) (n := n0) (g := g) (rd := rd) (ha := ha) (mid := Str.ofString "1") (ps := [Str.ofString "1"]) ⟨B, F8, X, T, hk, N9, C1, C2, C3⟩ XB TB (hG.mono fun q hq => List.mem_append_right _ hq) (hrd2.mono fun q hq => List.mem_append_right _ hq) hhaZ (fun _ h => nomatch h) (by simp) (by decide +kernel) (by decide +kernel) (by decide +kernel) (by decide +kernel) (by decide +kernel) (.inl rfl) (by omega) (by omega) ?_
  intro hs1 n1 tl1 h10 k10 i1 i2 F10 N10
  clear F8 N9
  repeat' ((fail_if_success (with_reducible show wpAny _ _ (call (Value.ref 106) _ _) _ _ _)); first | (k_unfold; (try dsimp only)) | (k_end; wrow_close) | walk1 | (dsimp only; walk1) | (leave1; walk_say "STEP leave1"; try dsimp only) | fail "no step")
  have e1 : ∀ p ∈ tl1 ++ (tabs o1' o2 o3' ++ W), p.1 ≠ ha := fun q hq => (List.mem_append.mp hq).elim (fun h => Nat.ne_of_gt (i2 q h)) (hhaZ q)
  have u1 : ∀ q ∈ W, q ∈ tl1 ++ (tabs o1' o2 o3' ++ W) := fun q hq => List.mem_append_right _ (List.mem_append_right _ hq)
  simp only [List.length_nil] at i1
  refine no_shape_c (s := { s with heap := _, toks := _ }) (front := []) (R₀ := tl1 ++ (tabs o1' o2 o3' ++ W)) (hs := hs1) (n := n1) (g := g) (rd := rd) (ha := ha) (mid := Str.ofString "1,2,3") (ps := [Str.ofString "1", Str.ofString "2", Str.ofString "3"]) ⟨B, F10, X, T, hk, N10, C1, C2, C3⟩ XB TB (hG.mono u1) (hrd2.mono u1) e1 (fun _ h => nomatch h) (by omega) (by decide +kernel) (by decide +kernel) (by decide +kernel) (by decide +kernel) (by decide +kernel) (.inr rfl) (by omega) (by omega) ?_
  intro hs2 n2 tl2 h11 k11 i3 i4 F11 N11
  clear F10 N10
  repeat' ((fail_if_success (with_reducible show wpAny _ _ (call (Value.ref 106) _ _) _ _ _)); first | (k_unfold; (try dsimp only)) | (k_end; wrow_close) | walk1 | (dsimp only; walk1) | (leave1; walk_say "STEP leave1"; try dsimp only) | fail "no step")
  have e2 : ∀ p ∈ tl2 ++ (tl1 ++ (tabs o1' o2 o3' ++ W)), p.1 ≠ ha := fun q hq => (List.mem_append.mp hq).elim (fun h => Nat.ne_of_gt (i4 q h)) (e1 q)
  have u2 : ∀ q ∈ W, q ∈ tl2 ++ (tl1 ++ (tabs o1' o2 o3' ++ W)) := fun q hq => List.mem_append_right _ (u1 q hq)
  refine no_shape_c (s := { s with heap := _, toks := _ }) (front := []) (R₀ := tl2 ++ (tl1 ++ (tabs o1' o2 o3' ++ W))) (hs := hs2) (n := n2) (g := g) (rd := rd) (ha := ha) (mid := Str.ofString ",,") (ps := [Str.ofString "", Str.ofString "", Str.ofString ""]) ⟨B, F11, X, T, hk, N11, C1, C2, C3⟩ XB TB (hG.mono u2) (hrd2.mono u2) e2 (fun _ h => nomatch h) (by omega) (by decide +kernel) (by decide +kernel) (by decide +kernel) (by decide +kernel) (by decide +kernel) (.inr rfl) (by omega) (by omega) ?_
  intro hs3 n3 tl3 h12 k12 i5 i6 F12 N12
  clear F11 N11
  repeat' ((fail_if_success (with_reducible show wpAny _ _ (execs (Stmt.Assign _ (Expr.List _ _) _ :: _) _) _ _ _)); first | (k_unfold; (try dsimp only)) | (k_end; wrow_close) | walk1 | (dsimp only; walk1) | (leave1; walk_say "STEP leave1"; try dsimp only) | fail "no step")
  have upW : ∀ q ∈ W, q ∈ (ha, listOf hs3.toArray n3) :: (tl3 ++ (tl2 ++ (tl1 ++ W))) := fun q hq => .tail _ (List.mem_append_right _ (List.mem_append_right _ (List.mem_append_right _ hq)))
  refine K ((ha, listOf hs3.toArray n3) :: (tl3 ++ (tl2 ++ (tl1 ++ W)))) o1' o3' _ _ _ (fun q hq => upW q (mZ1 q hq)) ⟨hT2.1.mono upW, hT2.2.1.mono upW, hT2.2.2.1.mono upW, fun q hq => ?_⟩ (fun y e1 => if_neg e1) F12 (news_sub N12 fun q hq => ?_)
  · have big : ∀ {b : Nat}, @LT.lt Nat _ ha b → b ≠ 87 ∧ b ≠ 64 ∧ b ≠ 57 := fun {b} h => by
      have h1 : @LT.lt Nat _ 87 ha := hlt
      have h2 : @LT.lt Nat _ 87 b := Nat.lt_trans h1 h
      omega
    simp only [List.mem_cons, List.mem_append] at hq
    rcases hq with rfl | hq | hq | hq | hq
    · exact ha3
    · exact big (i6 q hq)
    · exact big (i4 q hq)
    · exact big (i2 q hq)
    · exact hT2.2.2.2 q hq
  · simp only [List.mem_cons, List.mem_append, List.nil_append, List.not_mem_nil, or_false] at hq ⊢
    rcases hq with (h | h | h) | h | h | h | h | h <;> simp [h]

set_option maxHeartbeats 1000000 in
theorem n2_turn {w : World} {p : Program} {loose : List Str} {mean : ExcName → Option Value} {mg mb : Str → Option Value}
    {dp un : Nat} {gd : Option (List Code)} {fa cT : Addr} {cd : Value} {outer : List Env} {A₀ : Around} {base h₀ : Heap} {L : Addr} {m : Str → Option Value} {s : Shared} {Q E : Value → Shared → Prop}
    {i : Nat} {ti : Tok} {Z : Led} {C Dt : Addr} {oC oT : Obj} {m₂ : Str → Option Value} {ys : List Value} {xs : List Span}
    (AT : At w p loose mean mg mb (fnScope lawDef) outer A₀ base h₀ L m s.heap Z) (hC : (C, oC) ∈ Z) (hoC : LCg.NsObj oC m₂) (hv : m₂ (Str.ofString "k") = some (.int ((i : Nat) : Int) ti))
    (hcT : (cT, oT) ∈ Z) (hoT : oT.data = .cell (some (.ref Dt))) (hDt : (Dt, LCg.lst ys) ∈ Z) (hys : StrsAre ys (xs.map Span.text)) (hi : i < xs.length) (hl : xs.length ≤ 5)
    (hdp : dp + 1 < recursionLimit) (hun : un + 8 < cLine)
    (K : ∀ r t1 t2 h' tk', (∀ z ∈ Z, z.1 < r) → Fr h₀ L h' m → News h₀ L h' ((r, { cls := .type "tuple", data := .seq #[.int (((i : Nat) : Int) + 1) t1, .str (xs[i]).text t2] }) :: Z) → Q (.ref r) { s with heap := h', toks := tk' }) :
    wpAny (model PySem.Challenge.rw_ej5023_01.row.prog w) (ktrTop dp un gd lawQ (fnScope lawDef) L fa cd [(tx, cT)] outer)
      (eval (compPart n2Comp).1 (compEnvC (compPart n2Comp).2 [(tx, cT)] C (envX lawQ (fnScope lawDef) L fa cd [(tx, cT)]))) Q E s := by
  obtain ⟨B, F, X, T, hk, N, C1, C2, C3⟩ := AT
  w_top off; revert X; k_fill; intro X
  conv in (compPart n2Comp).1 => whnf
  conv in (compPart n2Comp).2 => whnf
  repeat' ((fail_if_success (with_reducible show wpAny _ _ (subscriptTail _ _ _ _) _ _ _)); first | (k_unfold; (try dsimp only)) | (k_end; wrow_close) | walk1 | (dsimp only; walk1) | (leave1; walk_say "STEP leave1"; try dsimp only) | fail "no step")
  obtain ⟨tt, htt⟩ := strs_get hys (i := i) (by rw [List.length_map]; exact hi)
  rw [List.getElem_map] at htt
  have hIL : s.heap.IsList Dt ys.toArray := ⟨_, (N _ hDt).1, rfl, _, rfl⟩
  refine item_listL (x := .str (xs[i]).text tt) hIL (by omega) (by omega) (by rw [Int.toNat_natCast]; exact htt) ?_
  k_steps
  (rename News h₀ L _ _ => N12)
  (rename Fr h₀ L _ _ => F12)
  (rename (∀ p ∈ Z, p.1 < _) => lf)
  exact K _ _ _ _ _ lf F12 N12

set_option maxHeartbeats 1000000 in
theorem n2_list {w : World} {p : Program} {loose : List Str} {mean : ExcName → Option Value} {mg mb : Str → Option Value}
    {dp un : Nat} {gd : Option (List Code)} {fa cT : Addr} {cd : Value} {outer : List Env} {A₀ : Around} {base h₀ : Heap} {L : Addr} {m : Str → Option Value} {s : Shared} {Q E : Value → Shared → Prop}
    {Z : Led} {Dt : Addr} {oT : Obj} {ys : List Value} {xs : List Span}
    (AT : At w p loose mean mg mb (fnScope lawDef) outer A₀ base h₀ L m s.heap Z)
    (hcT : (cT, oT) ∈ Z) (hoT : oT.data = .cell (some (.ref Dt))) (hDt : (Dt, LCg.lst ys) ∈ Z) (hys : StrsAre ys (xs.map Span.text)) (hl : xs.length ≤ 5)
    (hdp : dp + 20 < recursionLimit) (hun : un + 100 < cLine)
    (K : ∀ D zs tl h' tk', DatAll tl zs (toldD Span.text xs) → (∀ p ∈ tl, ∀ z ∈ Z, z.1 < p.1) → (∀ z ∈ Z, z.1 ≠ D) → Fr h₀ L h' m → News h₀ L h' ((D, LCg.lst zs) :: (tl ++ Z)) → Q (.ref D) { s with heap := h', toks := tk' }) :
    wpAny (model PySem.Challenge.rw_ej5023_01.row.prog w) (ktrTop dp un gd lawQ (fnScope lawDef) L fa cd [(tx, cT)] outer)
      (eval n2Comp (envX lawQ (fnScope lawDef) L fa cd [(tx, cT)])) Q E s := by
  obtain ⟨B, F, X, T, hk, N, C1, C2, C3⟩ := AT
  w_top off; revert X; k_fill; intro X
  conv in n2Comp => whnf
  refine comp_r (base := base) (h₀ := h₀) (L := L) (outer := outer) F rfl rfl rfl rfl (by decide) rfl (by decide) rfl ?_
  repeat' ((fail_if_success (with_reducible show wpAny _ _ (call (Value.builtin "len") _ _) _ _ _)); first | (k_unfold; (try dsimp only)) | (k_end; wrow_close) | walk1 | (dsimp only; walk1) | (leave1; walk_say "STEP leave1"; try dsimp only) | fail "no step")
  have hyl : ys.length = xs.length := by rw [hys.length, List.length_map]
  refine len_led N hDt (by omega) ?_
  repeat' ((fail_if_success (with_reducible show wpAny _ _ (call (Value.type "range") _ _) _ _ _)); first | (k_unfold; (try dsimp only)) | (k_end; wrow_close) | walk1 | (dsimp only; walk1) | (leave1; walk_say "STEP leave1"; try dsimp only) | fail "no step")
  rw [hyl]
  refine range1_rows (s := { s with toks := _ }) F N fun h1 k1 t₁ u₁ v₁ hr F1 N1 _ => ?_
  refine ⟨_, xs.length, t₁, u₁, v₁, Z, numJ Z xs, fun _ => False, rfl, F1, N1, hr, by omega, ⟨[], rfl, .nil, fun _ h => nomatch h⟩, ?_, ?_, fun _ _ _ _ _ hf => hf.elim⟩
  · rintro i v zs nx I oI C oC D m₂ h tk ⟨hi, t, rfl⟩ ⟨tl, rfl, j1, j2⟩ hoC hv F4 N4 off4 ne3
    have off4m := off4.mem
    have up : ∀ q ∈ Z, q ∈ (I, oI) :: (C, oC) :: (D, LCg.lst zs) :: (tl ++ Z) := fun q hq => .tail _ (.tail _ (.tail _ (List.mem_append_right _ hq)))
    refine n2_turn ⟨B, F4, X, T, hk, N4, C1, C2, C3⟩ (.tail _ (.head _)) hoC hv (up _ hcT) hoT (up _ hDt) hys hi hl (by omega) (by omega) ?_
    intro r t1 t2 h' tk' hr1 F5 N5
    refine ⟨h', tk', (r, { cls := .type "tuple", data := .seq #[.int (((i : Nat) : Int) + 1) t1, .str (xs[i]).text t2] }) :: (tl ++ Z), rfl, F5, news_sub N5 ?_, ?_, (r, { cls := .type "tuple", data := .seq #[.int (((i : Nat) : Int) + 1) t1, .str (xs[i]).text t2] }) :: tl, rfl, ?_, ?_⟩
    · intro q hq
      simp only [List.mem_cons] at hq ⊢
      rcases hq with h | h | h | h | h
      · exact .inr (.inl h)
      · exact .inr (.inr (.inl h))
      · exact .inr (.inr (.inr (.inl h)))
      · exact .inl h
      · exact .inr (.inr (.inr (.inr h)))
    · refine ⟨⟨?_, ?_, ?_⟩, off4⟩
      · exact Nat.ne_of_gt (hr1 _ (.head _))
      · exact Nat.ne_of_gt (hr1 _ (.tail _ (.head _)))
      · exact Nat.ne_of_gt (hr1 _ (.tail _ (.tail _ (.head _))))
    · rw [List.take_add_one, List.getElem?_eq_getElem hi]
      show DatAll _ _ (toldD Span.text (xs.take i ++ [xs[i]]))
      rw [toldD_snoc, List.length_take, Nat.min_eq_left (Nat.le_of_lt hi)]
      exact (j1.mono fun q hq => List.mem_cons_of_mem _ hq).append (.one (.tuple (vs := [.int (((i : Nat) : Int) + 1) t1, .str (xs[i]).text t2]) (.head _) (.cons (.int _ _) (.cons (.str _ _) .nil))))
    · intro q hq z hz
      rcases List.mem_cons.mp hq with rfl | hq
      · exact hr1 z (up z hz)
      · exact j2 q hq z hz
  · rintro D h tk zs nx ⟨tl, rfl, j1, j2⟩ F4 N4 off4
    rw [List.take_of_length_le (Nat.le_refl _)] at j1
    exact K D zs tl h tk j1 j2 (fun z hz => off1_mem off4 z (List.mem_append_right _ hz)) F4 N4

set_option maxHeartbeats 1000000 in
theorem p2_turn {w : World} {p : Program} {loose : List Str} {mean : ExcName → Option Value} {mg mb : Str → Option Value}
    {dp un : Nat} {gd : Option (List Code)} {fa cT : Addr} {cd : Value} {outer : List Env} {A₀ : Around} {base h₀ : Heap} {L : Addr} {m : Str → Option Value} {s : Shared} {Q E : Value → Shared → Prop}
    {Z : Led} {C : Addr} {oC : Obj} {m₂ : Str → Option Value}
    {xo dx : Addr} {t1 t2 t3 t4 tb : Tok} {y1 y2 : Value} {b : Str} {e : Bool}
    (AT : At w p loose mean mg mb (fnScope lawDef) outer A₀ base h₀ L m s.heap Z) (hC : (C, oC) ∈ Z) (hoC : LCg.NsObj oC m₂) (hv : m₂ (Str.ofString "found") = some (.ref xo))
    (hy1 : handedIn y1 = true) (hy2 : handedIn y2 = true) (hx : (xo, instObj 51 dx) ∈ Z) (hd : (dx, rangeDict w.params t1 t2 t3 t4 y1 y2 b tb e) ∈ Z)
    (hdp : dp + 20 < recursionLimit) (hun : un + 200 < cLine)
    (K : ∀ r h' tk', (∀ z ∈ Z, z.1 < r) → Fr h₀ L h' m → News h₀ L h' ((r, { cls := .type "tuple", data := .seq #[y1, y2, .str b tb, .bool e] }) :: Z) → Q (.ref r) { s with heap := h', toks := tk' }) :
    wpAny (model PySem.Challenge.rw_ej5023_01.row.prog w) (ktrTop dp un gd lawQ (fnScope lawDef) L fa cd [(tx, cT)] outer)
      (eval (compPart p2Comp).1 (compEnvC (compPart p2Comp).2 [] C (envX lawQ (fnScope lawDef) L fa cd [(tx, cT)]))) Q E s := by
  obtain ⟨B, F, X, T, hk, N, C1, C2, C3⟩ := AT
  w_top off; revert X; k_fill; intro X
  conv in (compPart p2Comp).1 => whnf
  conv in (compPart p2Comp).2 => whnf
  repeat' ((fail_if_success (with_reducible show wpAny _ _ (call (Value.ref 113) _ _) _ _ _)); first | (k_unfold; (try dsimp only)) | (k_end; wrow_close) | walk1 | (dsimp only; walk1) | (leave1; walk_say "STEP leave1"; try dsimp only) | fail "no step")
  exact plain_c (s := { s with toks := _ }) ⟨B, F, X, T, hk, N, C1, C2, C3⟩ hy1 hy2 hx hd (by omega) (by omega) fun r h' tk' l F' N' => K r h' tk' l F' N'
set_option maxHeartbeats 1000000 in
theorem p2_list {w : World} {p : Program} {loose : List Str} {mean : ExcName → Option Value} {mg mb : Str → Option Value}
    {dp un : Nat} {gd : Option (List Code)} {fa cT : Addr} {cd : Value} {outer : List Env} {A₀ : Around} {base h₀ : Heap} {L : Addr} {m : Str → Option Value} {s : Shared} {Q E : Value → Shared → Prop}
    {Z : Led} {r : Addr} {vs : List Value} {n : Nat} {xs : List Span}
    (AT : At w p loose mean mg mb (fnScope lawDef) outer A₀ base h₀ L m s.heap Z)
    (hm : m (Str.ofString "told") = some (.ref r)) (hr : (r, listOf vs.toArray n) ∈ Z) (hR : RangesAre w.params Z vs 0 xs) (hl : xs.length ≤ 5)
    (hdp : dp + 30 < recursionLimit) (hun : un + 300 < cLine)
    (K : ∀ D zs tl h' tk', DatAll (tl ++ Z) zs (duesD 0 xs) → (∀ p ∈ tl, ∀ z ∈ Z, z.1 < p.1) → (∀ z ∈ Z, z.1 ≠ D) → Fr h₀ L h' m → News h₀ L h' ((D, LCg.lst zs) :: (tl ++ Z)) → Q (.ref D) { s with heap := h', toks := tk' }) :
    wpAny (model PySem.Challenge.rw_ej5023_01.row.prog w) (ktrTop dp un gd lawQ (fnScope lawDef) L fa cd [(tx, cT)] outer)
      (eval p2Comp (envX lawQ (fnScope lawDef) L fa cd [(tx, cT)])) Q E s := by
  obtain ⟨B, F, X, T, hk, N, C1, C2, C3⟩ := AT
  w_top off; revert X; k_fill; intro X
  conv in p2Comp => whnf
  refine comp_x (base := base) (h₀ := h₀) (L := L) (outer := outer) F rfl rfl rfl rfl (by decide) rfl (by decide) rfl ?_
  repeat' ((fail_if_success (with_reducible show CompAt _ _ _ _ _ _ _ _ _ _ _ _ _ _ _ _ _)); first | (k_unfold; (try dsimp only)) | (k_end; wrow_close) | walk1 | (dsimp only; walk1) | (leave1; walk_say "STEP leave1"; try dsimp only) | fail "no step")
  have hvl := hR.length
  refine ⟨r, vs.toArray, n, Z, plainJ Z xs, fun _ => False, rfl, F, N, ?_, by rw [List.size_toArray, PySem.sizeLine_eq]; omega, ⟨[], rfl, .nil, fun _ h => nomatch h⟩, ?_, ?_, fun _ _ _ _ _ hf => hf.elim⟩
  · rintro i ys nx ⟨tl, rfl, _⟩
    exact List.mem_append_right _ hr
  · rintro i v zs nx I oI C oC D m₂ h tk hi ⟨tl, rfl, j1, j2⟩ hoC hv F4 N4 off4 ne3
    have off4m := off4.mem
    have hi1 : i < vs.length := by
      have h5 : i < vs.toArray.size := (Array.getElem?_eq_some_iff.mp hi).1
      rwa [List.size_toArray] at h5
    have hix : i < xs.length := by omega
    obtain ⟨v', hv', hd⟩ := hR.get hix
    have hvv : v' = v := by
      have h5 : vs[i]? = some v := by rw [← hi]; simp
      rw [h5] at hv'
      exact (Option.some.inj hv').symm
    subst hvv
    obtain ⟨xo, dx, t1, t2, t3, t4, tb, y1, y2, rfl, m1, m2, hy⟩ := hd
    have hyh : handedIn y1 = true ∧ handedIn y2 = true := by
      generalize marksD _ _ = ms at hy
      cases hy with
      | cons a b => cases b with
        | cons c d => exact ⟨a.handed, c.handed⟩
    have up : ∀ q ∈ Z, q ∈ (I, oI) :: (C, oC) :: (D, LCg.lst zs) :: (tl ++ Z) := fun q hq => .tail _ (.tail _ (.tail _ (List.mem_append_right _ hq)))
    refine p2_turn ⟨B, F4, X, T, hk, N4, C1, C2, C3⟩ (.tail _ (.head _)) hoC hv hyh.1 hyh.2 (up _ m1) (up _ m2) (by omega) (by omega) ?_
    intro q9 h' tk' hr1 F5 N5
    refine ⟨h', tk', (q9, { cls := .type "tuple", data := .seq #[y1, y2, .str ⟨#[(xs[i]).b0, (xs[i]).b1]⟩ tb, .bool false] }) :: (tl ++ Z), rfl, F5, news_sub N5 ?_, ?_, (q9, { cls := .type "tuple", data := .seq #[y1, y2, .str ⟨#[(xs[i]).b0, (xs[i]).b1]⟩ tb, .bool false] }) :: tl, rfl, ?_, ?_⟩
    · intro q hq
      simp only [List.mem_cons] at hq ⊢
      rcases hq with h | h | h | h | h
      · exact .inr (.inl h)
      · exact .inr (.inr (.inl h))
      · exact .inr (.inr (.inr (.inl h)))
      · exact .inl h
      · exact .inr (.inr (.inr (.inr h)))
    · refine ⟨⟨?_, ?_, ?_⟩, off4⟩
      · exact Nat.ne_of_gt (hr1 _ (.head _))
      · exact Nat.ne_of_gt (hr1 _ (.tail _ (.head _)))
      · exact Nat.ne_of_gt (hr1 _ (.tail _ (.tail _ (.head _))))
    · rw [List.take_add_one, List.getElem?_eq_getElem hix]
      show DatAll _ _ (duesD 0 (xs.take i ++ [xs[i]]))
      rw [duesD_snoc]
      refine (j1.mono fun q hq => List.mem_cons_of_mem _ hq).append (.one (.tuple (vs := [y1, y2, .str ⟨#[(xs[i]).b0, (xs[i]).b1]⟩ tb, .bool false]) (.head _) ((hy.mono fun q hq => .tail _ (List.mem_append_right _ hq)).append (.cons (.str _ _) (.cons (.bool _) .nil)))))
    · intro q hq z hz
      rcases List.mem_cons.mp hq with rfl | hq
      · exact hr1 z (up z hz)
      · exact j2 q hq z hz
  · rintro D h tk zs nx ⟨tl, rfl, j1, j2⟩ F4 N4 off4
    rw [List.size_toArray, hvl, List.take_of_length_le (Nat.le_refl _)] at j1
    exact K D zs tl h tk j1 j2 (fun z hz => off1_mem off4 z (List.mem_append_right _ hz)) F4 N4

theorem upto_eq (ys : List Value) {y : Int} (h : 0 ≤ y) : kms_pick ys.toArray.toList none (some y) = ys.take y.toNat := by
  unfold kms_pick kms_lo kms_hi
  simp only [List.toList_toArray, List.drop_zero, Nat.sub_zero, if_neg (show ¬ (y < 0) by omega)]
  exact kmk_take_min _ _
theorem strs_take : ∀ {vs : List Value} {ss : List Str} (_ : StrsAre vs ss) (n : Nat), StrsAre (vs.take n) (ss.take n)
  | _, _, .nil, n => by simp; exact .nil
  | _, _, .cons x t r, 0 => .nil
  | _, _, .cons x t r, n + 1 => .cons x t (strs_take r n)
theorem bigger {ha b : Nat} (hlt : 87 < ha) (h : ha < b) : b ≠ 87 ∧ b ≠ 64 ∧ b ≠ 57 := by omega
set_option maxHeartbeats 2000000 in
theorem law9 {w : World} {p : Program} {loose : List Str} {mean : ExcName → Option Value} {mg mb : Str → Option Value}
    {dp un : Nat} {gd : Option (List Code)} {fa cT : Addr} {cd : Value} {A₀ : Around} {base h₀ : Heap} {L : Addr} {m : Str → Option Value} {s : Shared} {Q : Flow → Shared → Prop} {E : Value → Shared → Prop}
    {o1 o2 o3 oT : Obj} {Dt : Addr} {ys : List Value} {Z : Led} {xs : List Span} {data : Str} {tt ts : Tok} {stop : Int}
    (AT : At w p loose mean mg mb (fnScope lawDef) [] A₀ base h₀ L m s.heap (tabs o1 o2 o3 ++ Z)) (hT : Tab3 o1 o2 o3 Z)
    (XB : (Mine.hd.heap_39 w.params).In base) (TB : Top p loose mean mg mb base)
    (hcT : (cT, oT) ∈ Z) (hoT : oT.data = .cell (some (.ref Dt))) (hDt : (Dt, LCg.lst ys) ∈ Z) (hys : StrsAre ys (xs.map Span.text)) (hl : xs.length ≤ 5) (hok : ∀ x ∈ xs, spanOk x = true)
    (hm1 : m (Str.ofString "text") = some (.str data tt)) (hm2 : m (Str.ofString "stop") = some (.int stop ts)) (hst : 1 ≤ stop) (hst2 : stop ≤ 7) (hscan : scan data.cps.toList = (false, [], xs.map Span.codes)) (hdl : data.length ≤ 900)
    (hdp : dp + 100 < recursionLimit) (hun : un + 1000 < cLine)
    (K : ∀ (Z' : Led) o1' o2' m' h' tk', (∀ q ∈ Z, q ∈ Z') → Tab3 o1' o2' o3 Z' → (∀ y, y ≠ Str.ofString "told" → y ≠ Str.ofString "heard" → m' y = m y) → Fr h₀ L h' m' → News h₀ L h' (tabs o1' o2' o3 ++ Z') →
      wpAny (model PySem.Challenge.rw_ej5023_01.row.prog w) (ktrTop dp un gd lawQ (fnScope lawDef) L fa cd [(tx, cT)] []) (execs ((fnBody lawDef).drop 24) (envX lawQ (fnScope lawDef) L fa cd [(tx, cT)])) Q E { s with heap := h', toks := tk' }) :
    wpAny (model PySem.Challenge.rw_ej5023_01.row.prog w) (ktrTop dp un gd lawQ (fnScope lawDef) L fa cd [(tx, cT)] []) (execs ((fnBody lawDef).drop 21) (envX lawQ (fnScope lawDef) L fa cd [(tx, cT)])) Q E s := by
  obtain ⟨B, F, X, T, hk, N, C1, C2, C3⟩ := AT
  w_top off; revert X; k_fill; intro X
  conv in (fnBody lawDef).drop 21 => whnf
  repeat' ((fail_if_success (with_reducible show wpAny _ _ (call (Value.ref 92) _ _) _ _ _)); first | (k_unfold; (try dsimp only)) | (k_end; wrow_close) | walk1 | (dsimp only; walk1) | (leave1; walk_say "STEP leave1"; try dsimp only) | fail "no step")
  (rename Fr h₀ L _ _ => F1)
  (rename News h₀ L _ ((_, _) :: _) => N1)
  (rename (∀ p ∈ tabs o1 o2 o3 ++ Z, p.1 < _) => fr1)
  rename_i ha h1 h2
  have hlt : @LT.lt Nat _ 87 ha := fr1 _ (.head _)
  have ha3 : ha ≠ 87 ∧ ha ≠ 64 ∧ ha ≠ 57 := ⟨Nat.ne_of_gt (fr1 _ (.head _)), Nat.ne_of_gt (fr1 _ (.tail _ (.head _))), Nat.ne_of_gt (fr1 _ (.tail _ (.tail _ (.head _))))⟩
  refine l92 (s := { s with heap := _, toks := _ }) ⟨B, F1, X, T, hk, N1, C1, C2, C3⟩ hT ha3 (by omega) (by omega) ?_
  intro rd U1 o1' h3 k3 hrd hT1 fr2 F2 N2
  clear F1 N1
  have hhaZ : ∀ p ∈ U1 ++ Z, p.1 ≠ ha := by
    intro q hq
    rcases List.mem_append.mp hq with hq | hq
    · exact Nat.ne_of_gt (fr2 q hq _ (.head _))
    · exact Nat.ne_of_lt (fr1 q (List.mem_append_right _ hq))
  have mZ1 : ∀ q ∈ Z, q ∈ U1 ++ Z := fun q hq => List.mem_append_right _ hq
  generalize U1 ++ Z = W at *
  clear fr2
  have hhaW : ∀ p ∈ (64, o2) :: (87, o1') :: (57, o3) :: W, p.1 ≠ ha := by
    intro q hq
    simp only [List.mem_cons] at hq
    rcases hq with rfl | rfl | rfl | hq
    · exact Ne.symm ha3.2.1
    · exact Ne.symm ha3.1
    · exact Ne.symm ha3.2.2
    · exact hhaZ q hq
  repeat' ((fail_if_success (with_reducible show wpAny _ _ (call (Value.ref 99) _ _) _ _ _)); first | (k_unfold; (try dsimp only)) | (k_end; wrow_close) | walk1 | (dsimp only; walk1) | (leave1; walk_say "STEP leave1"; try dsimp only) | fail "no step")
  obtain ⟨qc, qd, fd, qs, hqf⟩ := rd_fn hrd
  refine stopped_c (s := { s with heap := _, toks := _ }) (Z := W) (spans := xs) (o1 := o1') (o2 := o2) (o3 := o3) (ha := ha) (n0 := 0) (Inv := LInv Span.text ha W) (d := 1) (u := 8) (qc := qc) (qd := qd) (fd := fd) (qs := qs) ⟨B, F2, X, T, hk, news_sub N2 ?_, C1, C2, C3⟩ XB TB hT1.2.1 ?_ hhaW (fun R ys vs h => ?_) (fun R ys vs h => ?_) ⟨[], [], 0, rfl, .nil, .nil, fun _ h => nomatch h⟩ (fun R ys vs h => ?_) (listener_rd Span.text spanOk 8 (by omega) hrd hhaZ) hscan hdl (by omega) hok (by omega) (by omega) ?_ ?_
  · intro q hq
    simp only [List.mem_append, List.mem_cons, List.not_mem_nil, or_false] at hq ⊢
    rcases hq with h | (h | h | h) | h <;> simp [h]
  · intro q hq
    simp only [List.mem_append, List.mem_cons, List.not_mem_nil, or_false] at hq
    rcases hq with (rfl | rfl | rfl) | hq
    · exact ha3.2.1
    · exact Nat.ne_of_beq_eq_false rfl
    · exact Nat.ne_of_beq_eq_false rfl
    · exact (hT1.2.2.2 q hq).2.1
  · obtain ⟨tl, hs, n, rfl, _⟩ := h
    exact .tail _ (List.mem_append_right _ hqf)
  · obtain ⟨tl, hs, n, rfl, _, hD, _⟩ := h
    rw [hD.length]; simp [toldD]
  · obtain ⟨tl, hs, n, rfl, _⟩ := h
    exact ⟨_, .head _⟩
  · rintro hgo r vs R' U o2' n h4 k4 ⟨tl, hs, n', rfl, q1, q2, q3⟩ hT4 fr4 F3 N3 _ hr2
    have hgt : (xs.length : Int) < stop := by
      by_cases h : (xs.length : Int) < stop
      · exact h
      · exfalso
        have h9 := hgo (stop.toNat - 1) (by omega)
        simp only [List.length_take, decide_eq_true_eq] at h9
        omega
    have N4 : News h₀ L h4 (tabs o1' o2' o3 ++ ((r, listOf vs.toArray n) :: (ha, listOf hs.toArray n') :: (tl ++ (U ++ W)))) := news_sub N3 fun q hq => by
      simp only [List.mem_append, List.mem_cons, List.not_mem_nil, or_false] at hq ⊢
      rcases hq with (h | h | h) | h | h | h | h | h <;> simp [h]
    have hT5 : Tab3 o1' o2' o3 ((r, listOf vs.toArray n) :: (ha, listOf hs.toArray n') :: (tl ++ (U ++ W))) := by
      have upW : ∀ q ∈ W, q ∈ (r, listOf vs.toArray n) :: (ha, listOf hs.toArray n') :: (tl ++ (U ++ W)) := fun q hq => .tail _ (.tail _ (List.mem_append_right _ (List.mem_append_right _ hq)))
      refine ⟨hT1.1.mono upW, hT4.mono fun q hq => .tail _ (.tail _ (List.mem_append_right _ hq)), hT1.2.2.1.mono upW, fun q hq => ?_⟩
      simp only [List.mem_cons, List.mem_append] at hq
      rcases hq with rfl | rfl | hq | hq | hq
      · exact ⟨Nat.ne_of_gt (hr2 _ (.tail _ (.head _))), Nat.ne_of_gt (hr2 _ (.head _)), Nat.ne_of_gt (hr2 _ (.tail _ (.tail _ (.head _))))⟩
      · exact ha3
      · exact bigger hlt (q3 q hq)
      · exact bigger hlt ((fr4 q hq).2 _ (.head _))
      · exact hT1.2.2.2 q hq
    generalize hZq : ((r, listOf vs.toArray n) :: (ha, listOf hs.toArray n') :: (tl ++ (U ++ W)) : Led) = Zq at N4 hT5
    have mR : (r, listOf vs.toArray n) ∈ Zq := by rw [← hZq]; exact .head _
    have mH : (ha, listOf hs.toArray n') ∈ Zq := by rw [← hZq]; exact .tail _ (.head _)
    have mT : ∀ q ∈ tl, q ∈ Zq := fun q hq => by rw [← hZq]; exact .tail _ (.tail _ (List.mem_append_left _ hq))
    have mZ : ∀ q ∈ Z, q ∈ Zq := fun q hq => by rw [← hZq]; exact .tail _ (.tail _ (List.mem_append_right _ (List.mem_append_right _ (mZ1 q hq))))
    clear hZq N3 hr2 fr4 hT4 N2 F2 hhaZ hhaW hrd hqf fr1
    have inW : ∀ q ∈ Zq, q ∈ tabs o1' o2' o3 ++ Zq := fun q hq => List.mem_append_right _ hq
    have hcT9 := inW _ (mZ _ hcT)
    have hyl : ys.length = xs.length := by rw [hys.length, List.length_map]
    repeat' ((fail_if_success (with_reducible show wpAny _ _ (call (Value.builtin "len") _ _) _ _ _)); first | (k_unfold; (try dsimp only)) | (k_end; wrow_close) | walk1 | (dsimp only; walk1) | (leave1; walk_say "STEP leave1"; try dsimp only) | fail "no step")
    (rename News h₀ L _ (tabs o1' o2' o3 ++ Zq) => N5)
    refine len_led N5 (inW _ (mZ _ hDt)) (by omega) ?_
    rw [hyl]
    repeat' ((fail_if_success (with_reducible show wpAny _ _ (eval (Expr.ListComp _ _ _ _) _) _ _ _)); first | (k_unfold; (try dsimp only)) | (k_end; wrow_close) | walk1 | (dsimp only; walk1) | (leave1; walk_say "STEP leave1"; try dsimp only) | fail "no step")
    refine n2_list (s := { s with heap := _, toks := _ }) ⟨B, by assumption, X, T, hk, N5, C1, C2, C3⟩ (inW _ (mZ _ hcT)) hoT (inW _ (mZ _ hDt)) hys hl (by omega) (by omega) ?_
    intro D zs tl2 h7 k7 g1 g2 g3 F7 N7
    have in7 : ∀ q ∈ Zq, q ∈ (D, LCg.lst zs) :: (tl2 ++ (tabs o1' o2' o3 ++ Zq)) := fun q hq => .tail _ (List.mem_append_right _ (inW q hq))
    have hcT7 := in7 _ (mZ _ hcT)
    clear N5
    repeat' ((fail_if_success (with_reducible show wpAny _ _ (compareOp _ (Value.ref _) (Value.ref _)) _ _ _)); (fail_if_success (with_reducible show wpAny _ _ (execs (Stmt.Assign _ (Expr.List _ _) _ :: _) _) _ _ _)); first | (k_unfold; (try dsimp only)) | (k_end; wrow_close) | walk1 | (dsimp only; walk1) | (leave1; walk_say "STEP leave1"; try dsimp only) | fail "no step")
    refine same_ne (s := { s with heap := h7, toks := _ }) N7 (in7 _ mR) q2 (fun q hq => in7 _ (mT q hq)) (.head _) g1 (fun q hq => .tail _ (List.mem_append_left _ hq)) (told_ok hok) (by simp only []; omega) ?_
    repeat' ((fail_if_success (with_reducible show wpAny _ _ (compareOp _ (Value.ref _) (Value.ref _)) _ _ _)); (fail_if_success (with_reducible show wpAny _ _ (execs (Stmt.Assign _ (Expr.List _ _) _ :: _) _) _ _ _)); first | (k_unfold; (try dsimp only)) | (k_end; wrow_close) | walk1 | (dsimp only; walk1) | (leave1; walk_say "STEP leave1"; try dsimp only) | fail "no step")
    refine same_ne (s := { s with heap := h7, toks := _ }) N7 (in7 _ mH) (strs_dat q1) (fun q hq => nomatch hq) (in7 _ (mZ _ hDt)) (strs_dat hys) (fun q hq => nomatch hq) (strs_ok hok) (by simp only []; omega) ?_
    repeat' ((fail_if_success (with_reducible show wpAny _ _ (execs (Stmt.Assign _ (Expr.List _ _) _ :: _) _) _ _ _)); first | (k_unfold; (try dsimp only)) | (k_end; wrow_close) | walk1 | (dsimp only; walk1) | (leave1; walk_say "STEP leave1"; try dsimp only) | fail "no step")
    refine K Zq o1' o2' _ _ _ mZ hT5 (fun y e1 e2 => ?_) F7 (news_sub N7 fun q hq => .tail _ (List.mem_append_right _ hq))
    rw [if_neg e1, if_neg e2]
  · rintro j hj hgo _ R' U o2' t h4 k4 ⟨tl, hs, n', rfl, q1, q2⟩ hT4 fr4 F3 N3
    have hjs : ((j : Nat) : Int) + 1 = stop := by
      have h9 : ¬ (((xs.take j).length : Int) + 1 ≠ stop) := of_decide_eq_false hgo
      rw [List.length_take, Nat.min_eq_left (Nat.le_of_lt hj)] at h9
      omega
    have N4 : News h₀ L h4 (tabs o1' o2' o3 ++ ((ha, listOf hs.toArray n') :: (tl ++ (U ++ W)))) := news_sub N3 fun q hq => by
      simp only [List.mem_append, List.mem_cons, List.not_mem_nil, or_false] at hq ⊢
      rcases hq with (h | h | h) | h | h | h | h <;> simp [h]
    have hT5 : Tab3 o1' o2' o3 ((ha, listOf hs.toArray n') :: (tl ++ (U ++ W))) := by
      have upW : ∀ q ∈ W, q ∈ (ha, listOf hs.toArray n') :: (tl ++ (U ++ W)) := fun q hq => .tail _ (List.mem_append_right _ (List.mem_append_right _ hq))
      refine ⟨hT1.1.mono upW, hT4.mono fun q hq => .tail _ (List.mem_append_right _ hq), hT1.2.2.1.mono upW, fun q hq => ?_⟩
      simp only [List.mem_cons, List.mem_append] at hq
      rcases hq with rfl | hq | hq | hq
      · exact ha3
      · exact bigger hlt (q2 q hq)
      · exact bigger hlt ((fr4 q hq).2 _ (.head _))
      · exact hT1.2.2.2 q hq
    generalize hZq : ((ha, listOf hs.toArray n') :: (tl ++ (U ++ W)) : Led) = Zq at N4 hT5
    have mH : (ha, listOf hs.toArray n') ∈ Zq := by rw [← hZq]; exact .head _
    have mZ : ∀ q ∈ Z, q ∈ Zq := fun q hq => by rw [← hZq]; exact .tail _ (List.mem_append_right _ (List.mem_append_right _ (mZ1 q hq)))
    clear hZq N3 fr4 hT4 N2 F2 hhaZ hhaW hrd hqf fr1
    have inW : ∀ q ∈ Zq, q ∈ tabs o1' o2' o3 ++ Zq := fun q hq => List.mem_append_right _ hq
    have hcT9 := inW _ (mZ _ hcT)
    have hyl : ys.length = xs.length := by rw [hys.length, List.length_map]
    have hle : stop ≤ (xs.length : Int) := by omega
    repeat' ((fail_if_success (with_reducible show wpAny _ _ (call (Value.builtin "len") _ _) _ _ _)); first | (k_unfold; (try dsimp only)) | (k_end; wrow_close) | walk1 | (dsimp only; walk1) | (leave1; walk_say "STEP leave1"; try dsimp only) | fail "no step")
    (rename News h₀ L _ (tabs o1' o2' o3 ++ Zq) => N5)
    refine len_led N5 (inW _ (mZ _ hDt)) (by omega) ?_
    rw [hyl]
    repeat' ((fail_if_success (with_reducible show wpAny _ _ (subscriptTail _ _ _ _) _ _ _)); first | (k_unfold; (try dsimp only)) | (k_end; wrow_close) | walk1 | (dsimp only; walk1) | (leave1; walk_say "STEP leave1"; try dsimp only) | fail "no step")
    (rename Fr h₀ L _ _ => F5)
    have hDt5 := inW _ (mZ _ hDt)
    (refine' kms_slice_lit (its := ys.toArray) (zs := ys.take stop.toNat) ?wF9 ?wN9 ?wl9 ?wp9 ?wq9 ?we9 ?_ ?ws9 ?wt9 ?wz9; (case wF9 => exact F5); (case wN9 => exact N5); (case wl9 => exact ⟨_, (N5 _ hDt5).1, rfl, _, rfl⟩); (case wp9 => kmk_part); (case wq9 => kmk_part); (case we9 => exact upto_eq ys (by omega)); (case ws9 => with_unfolding_all rfl); (case wt9 => kmk_pure); (case wz9 => (rw [List.size_toArray, PySem.sizeLine_eq]; omega)))
    intro D h7 F7 N7 l7
    have hsp : (xs.take j ++ [xs[j]]).map Span.text = (xs.map Span.text).take stop.toNat := by
      rw [show stop.toNat = j + 1 from by omega, ← List.map_take, List.take_add_one, List.getElem?_eq_getElem hj]; rfl
    rw [hsp] at q1
    have hokS : ∀ d ∈ ((xs.map Span.text).take stop.toNat).map Dat.str, okB 6 d = true := fun d hd => by
      rw [List.map_take] at hd
      exact strs_ok hok d (List.mem_of_mem_take hd)
    repeat' ((fail_if_success (with_reducible show wpAny _ _ (compareOp _ (Value.ref _) (Value.ref _)) _ _ _)); (fail_if_success (with_reducible show wpAny _ _ (execs (Stmt.Assign _ (Expr.List _ _) _ :: _) _) _ _ _)); first | (k_unfold; (try dsimp only)) | (k_end; wrow_close) | walk1 | (dsimp only; walk1) | (leave1; walk_say "STEP leave1"; try dsimp only) | fail "no step")
    refine same_ne (s := { s with heap := _, toks := _ }) N7 (.tail _ (inW _ mH)) (strs_dat q1) (fun q hq => nomatch hq) (.head _) (strs_dat (strs_take hys stop.toNat)) (fun q hq => nomatch hq) hokS (by simp only []; omega) ?_
    repeat' ((fail_if_success (with_reducible show wpAny _ _ (execs (Stmt.Assign _ (Expr.List _ _) _ :: _) _) _ _ _)); first | (k_unfold; (try dsimp only)) | (k_end; wrow_close) | walk1 | (dsimp only; walk1) | (leave1; walk_say "STEP leave1"; try dsimp only) | fail "no step")
    refine K Zq o1' o2' _ _ _ mZ hT5 (fun y e1 e2 => ?_) F7 (news_sub N7 fun q hq => .tail _ hq)
    rw [if_neg e1, if_neg e2]

theorem go_all {stop : Int} {xs : List Span} (hst : 1 ≤ stop) (h : ∀ j (hj : j < xs.length), goG stop (xs.take j) xs[j] = true) : ((endsOf xs).length : Int) < stop := by
  have key : ∀ j, j ≤ xs.length → ((endsOf (xs.take j)).length : Int) < stop := by
    intro j
    induction j with
    | zero => intro _; rw [List.take_zero]; show ((0 : Nat) : Int) < stop; omega
    | succ j ih =>
      intro hj
      have h1 := ih (by omega)
      have h2 := h j (by omega)
      unfold goG at h2
      have h3 := of_decide_eq_true h2
      rw [List.take_add_one, List.getElem?_eq_getElem (show j < xs.length by omega)]
      show ((endsOf (xs.take j ++ [xs[j]])).length : Int) < stop
      omega
  have := key xs.length (Nat.le_refl _)
  rwa [List.take_of_length_le (Nat.le_refl _)] at this
theorem ends_split {xs : List Span} {j : Nat} (hj : j < xs.length) : endsOf xs = endsOf (xs.take j ++ [xs[j]]) ++ endsOf (xs.drop (j + 1)) := by
  have e : xs.take j ++ [xs[j]] = xs.take (j + 1) := by rw [List.take_add_one, List.getElem?_eq_getElem hj]; rfl
  rw [e, ← endsOf_append, List.take_append_drop]
theorem go_not {stop : Int} {xs : List Span} {j : Nat} (hj : j < xs.length) (h : goG stop (xs.take j) xs[j] = false) : stop ≤ ((endsOf xs).length : Int) ∧ (endsOf (xs.take j ++ [xs[j]])).take stop.toNat = (endsOf xs).take stop.toNat := by
  unfold goG at h
  have h3 := of_decide_eq_false h
  have h4 : ((endsOf (xs.take j)).length : Int) < stop ∧ stop ≤ ((endsOf (xs.take j ++ [xs[j]])).length : Int) := Classical.not_not.mp h3
  have e := ends_split hj
  constructor
  · rw [e, List.length_append]; omega
  · rw [e, List.take_append_of_le_length (by omega)]
set_option maxHeartbeats 2000000 in
theorem law10 {w : World} {p : Program} {loose : List Str} {mean : ExcName → Option Value} {mg mb : Str → Option Value}
    {dp un : Nat} {gd : Option (List Code)} {fa cT : Addr} {cd : Value} {A₀ : Around} {base h₀ : Heap} {L : Addr} {m : Str → Option Value} {s : Shared} {Q : Flow → Shared → Prop} {E : Value → Shared → Prop}
    {o1 o2 o3 : Obj} {du en : Addr} {dvs evs : List Value} {nd ne : Nat} {Z : Led} {xs : List Span} {data : Str} {tt ts : Tok} {stop : Int}
    (AT : At w p loose mean mg mb (fnScope lawDef) [] A₀ base h₀ L m s.heap (tabs o1 o2 o3 ++ Z)) (hT : Tab3 o1 o2 o3 Z)
    (XB : (Mine.hd.heap_39 w.params).In base) (TB : Top p loose mean mg mb base)
    (hdu : (du, listOf dvs.toArray nd) ∈ Z) (hdv : DatAll Z dvs (duesD 0 xs)) (hen : (en, listOf evs.toArray ne) ∈ Z) (hev : StrsAre evs (endsOf xs)) (hl : xs.length ≤ 5) (hok : ∀ x ∈ xs, spanOk x = true)
    (hm1 : m (Str.ofString "text") = some (.str data tt)) (hm2 : m (Str.ofString "due") = some (.ref du)) (hm3 : m (Str.ofString "ends") = some (.ref en)) (hm4 : m (Str.ofString "stop_ends") = some (.int stop ts)) (hst : 1 ≤ stop) (hst2 : stop ≤ 11)
    (hscan : scan data.cps.toList = (false, [], xs.map Span.codes)) (hdl : data.length ≤ 900)
    (hdp : dp + 100 < recursionLimit) (hun : un + 1000 < cLine)
    (hQ : ∀ (Z' : Led) o1' o2' o3' m' h' tk', (∀ q ∈ Z, q ∈ Z') → Tab3 o1' o2' o3' Z' → Fr h₀ L h' m' → News h₀ L h' (tabs o1' o2' o3' ++ Z') → Q (.ret (.bool true)) { s with heap := h', toks := tk' }) :
    wpAny (model PySem.Challenge.rw_ej5023_01.row.prog w) (ktrTop dp un gd lawQ (fnScope lawDef) L fa cd [(tx, cT)] []) (execs ((fnBody lawDef).drop 24) (envX lawQ (fnScope lawDef) L fa cd [(tx, cT)])) Q E s := by
  obtain ⟨B, F, X, T, hk, N, C1, C2, C3⟩ := AT
  w_top off; revert X; k_fill; intro X
  conv in (fnBody lawDef).drop 24 => whnf
  repeat' ((fail_if_success (with_reducible show wpAny _ _ (call (Value.ref 92) _ _) _ _ _)); first | (k_unfold; (try dsimp only)) | (k_end; wrow_close) | walk1 | (dsimp only; walk1) | (leave1; walk_say "STEP leave1"; try dsimp only) | fail "no step")
  (rename Fr h₀ L _ _ => F1)
  (rename News h₀ L _ ((_, _) :: _) => N1)
  (rename (∀ p ∈ tabs o1 o2 o3 ++ Z, p.1 < _) => fr1)
  rename_i ha h1 h2
  have hlt : @LT.lt Nat _ 87 ha := fr1 _ (.head _)
  have ha3 : ha ≠ 87 ∧ ha ≠ 64 ∧ ha ≠ 57 := ⟨Nat.ne_of_gt (fr1 _ (.head _)), Nat.ne_of_gt (fr1 _ (.tail _ (.head _))), Nat.ne_of_gt (fr1 _ (.tail _ (.tail _ (.head _))))⟩
  refine l92 (s := { s with heap := _, toks := _ }) ⟨B, F1, X, T, hk, N1, C1, C2, C3⟩ hT ha3 (by omega) (by omega) ?_
  intro rd U1 o1' h3 k3 hrd hT1 fr2 F2 N2
  clear F1 N1
  repeat' ((fail_if_success (with_reducible show wpAny _ _ (call (Value.ref 62) _ _) _ _ _)); first | (k_unfold; (try dsimp only)) | (k_end; wrow_close) | walk1 | (dsimp only; walk1) | (leave1; walk_say "STEP leave1"; try dsimp only) | fail "no step")
  refine l62 (s := { s with heap := _, toks := _ }) ⟨B, F2, X, T, hk, N2, C1, C2, C3⟩ hT1 ha3 (by omega) (by omega) ?_
  intro g U2 o3' h4 k4 hG hT2 fr3 F3 N3
  clear F2 N2
  have hrd2 : RdIn (U2 ++ (U1 ++ Z)) rd ha stop := hrd.mono fun q hq => List.mem_append_right _ hq
  have hhaZ : ∀ p ∈ U2 ++ (U1 ++ Z), p.1 ≠ ha := by
    intro q hq
    simp only [List.mem_append] at hq
    rcases hq with hq | hq | hq
    · exact Nat.ne_of_gt (fr3 q hq _ (.head _))
    · exact Nat.ne_of_gt (fr2 q hq _ (.head _))
    · exact Nat.ne_of_lt (fr1 q (List.mem_append_right _ hq))
  have mZ1 : ∀ q ∈ Z, q ∈ U2 ++ (U1 ++ Z) := fun q hq => List.mem_append_right _ (List.mem_append_right _ hq)
  generalize (U2 ++ (U1 ++ Z)) = W at *
  clear fr2 fr3 hrd hT1
  have hhaW : ∀ p ∈ (64, o2) :: (87, o1') :: (57, o3') :: W, p.1 ≠ ha := by
    intro q hq
    simp only [List.mem_cons] at hq
    rcases hq with rfl | rfl | rfl | hq
    · exact Ne.symm ha3.2.1
    · exact Ne.symm ha3.1
    · exact Ne.symm ha3.2.2
    · exact hhaZ q hq
  repeat' ((fail_if_success (with_reducible show wpAny _ _ (call (Value.ref 99) _ _) _ _ _)); first | (k_unfold; (try dsimp only)) | (k_end; wrow_close) | walk1 | (dsimp only; walk1) | (leave1; walk_say "STEP leave1"; try dsimp only) | fail "no step")
  obtain ⟨qc, qd, fd, qs, hqf⟩ := range_fn hG
  obtain ⟨cE, c', oE, oc, vc, doc, pm, ct, tc, g1, g2, g3, g4, g5, g6⟩ := hG
  refine stopped_c (s := { s with heap := _, toks := _ }) (Z := W) (spans := xs) (o1 := o1') (o2 := o2) (o3 := o3') (ha := ha) (n0 := 0) (Inv := GInv w.params ha W) (d := 20) (u := 200) (qc := qc) (qd := qd) (fd := fd) (qs := qs) ⟨B, F3, X, T, hk, news_sub N3 ?_, C1, C2, C3⟩ XB TB hT2.2.1 ?_ hhaW (fun R ys vs h => ?_) (fun R ys vs h => ?_) ⟨[], [], 0, rfl, .nil, trivial, fun _ h => nomatch h⟩ (fun R ys vs h => ?_) (range_rd g1 g2 g3 g4 g5 g6 hrd2 hhaZ) hscan hdl (by omega) hok (by omega) (by omega) ?_ ?_
  · intro q hq
    simp only [List.mem_append, List.mem_cons, List.not_mem_nil, or_false] at hq ⊢
    rcases hq with h | (h | h | h) | h <;> simp [h]
  · intro q hq
    simp only [List.mem_append, List.mem_cons, List.not_mem_nil, or_false] at hq
    rcases hq with (rfl | rfl | rfl) | hq
    · exact ha3.2.1
    · exact Nat.ne_of_beq_eq_false rfl
    · exact Nat.ne_of_beq_eq_false rfl
    · exact (hT2.2.2.2 q hq).2.1
  · obtain ⟨tl, hs, n, rfl, _⟩ := h
    exact .tail _ (List.mem_append_right _ hqf)
  · obtain ⟨tl, hs, n, rfl, _, hD, _⟩ := h
    exact hD.length
  · obtain ⟨tl, hs, n, rfl, _⟩ := h
    exact ⟨_, .head _⟩
  · rintro hgo r vs R' U o2' n h5 k5 ⟨tl, hs, n', rfl, q1, q2, q3⟩ hT4 fr4 F5 N5 _ hr2
    have hgt := go_all hst hgo
    have N4 : News h₀ L h5 (tabs o1' o2' o3' ++ ((r, listOf vs.toArray n) :: (ha, listOf hs.toArray n') :: (tl ++ (U ++ W)))) := news_sub N5 fun q hq => by
      simp only [List.mem_append, List.mem_cons, List.not_mem_nil, or_false] at hq ⊢
      rcases hq with (h | h | h) | h | h | h | h | h <;> simp [h]
    have hT5 : Tab3 o1' o2' o3' ((r, listOf vs.toArray n) :: (ha, listOf hs.toArray n') :: (tl ++ (U ++ W))) := by
      have upW : ∀ q ∈ W, q ∈ (r, listOf vs.toArray n) :: (ha, listOf hs.toArray n') :: (tl ++ (U ++ W)) := fun q hq => .tail _ (.tail _ (List.mem_append_right _ (List.mem_append_right _ hq)))
      refine ⟨hT2.1.mono upW, hT4.mono fun q hq => .tail _ (.tail _ (List.mem_append_right _ hq)), hT2.2.2.1.mono upW, fun q hq => ?_⟩
      simp only [List.mem_cons, List.mem_append] at hq
      rcases hq with rfl | rfl | hq | hq | hq
      · exact ⟨Nat.ne_of_gt (hr2 _ (.tail _ (.head _))), Nat.ne_of_gt (hr2 _ (.head _)), Nat.ne_of_gt (hr2 _ (.tail _ (.tail _ (.head _))))⟩
      · exact ha3
      · exact bigger hlt (q3 q hq)
      · exact bigger hlt ((fr4 q hq).2 _ (.head _))
      · exact hT2.2.2.2 q hq
    generalize hZq : ((r, listOf vs.toArray n) :: (ha, listOf hs.toArray n') :: (tl ++ (U ++ W)) : Led) = Zq at N4 hT5
    have mR : (r, listOf vs.toArray n) ∈ Zq := by rw [← hZq]; exact .head _
    have mH : (ha, listOf hs.toArray n') ∈ Zq := by rw [← hZq]; exact .tail _ (.head _)
    have mT : ∀ q ∈ tl, q ∈ Zq := fun q hq => by rw [← hZq]; exact .tail _ (.tail _ (List.mem_append_left _ hq))
    have mZ : ∀ q ∈ Z, q ∈ Zq := fun q hq => by rw [← hZq]; exact .tail _ (.tail _ (List.mem_append_right _ (List.mem_append_right _ (mZ1 q hq))))
    clear hZq N5 hr2 fr4 hT4 N3 F3 hhaZ hhaW hrd2 hqf fr1 g1 g2 g3
    have inW : ∀ q ∈ Zq, q ∈ tabs o1' o2' o3' ++ Zq := fun q hq => List.mem_append_right _ hq
    have hyl : evs.length = (endsOf xs).length := hev.length
    have hel := endsOf_len xs
    repeat' ((fail_if_success (with_reducible show wpAny _ _ (call (Value.builtin "len") _ _) _ _ _)); first | (k_unfold; (try dsimp only)) | (k_end; wrow_close) | walk1 | (dsimp only; walk1) | (leave1; walk_say "STEP leave1"; try dsimp only) | fail "no step")
    (rename News h₀ L _ (tabs o1' o2' o3' ++ Zq) => N6)
    refine len_led N6 (inW _ (mZ _ hen)) (by omega) ?_
    rw [hyl]
    repeat' ((fail_if_success (with_reducible show wpAny _ _ (eval (Expr.ListComp _ _ _ _) _) _ _ _)); first | (k_unfold; (try dsimp only)) | (k_end; wrow_close) | walk1 | (dsimp only; walk1) | (leave1; walk_say "STEP leave1"; try dsimp only) | fail "no step")
    (rename Fr h₀ L _ _ => F6)
    refine p2_list (s := { s with heap := _, toks := _ }) (r := r) (vs := vs) (n := n) (xs := xs) ⟨B, F6, X, T, hk, N6, C1, C2, C3⟩ rfl (inW _ mR) (q2.mono fun q hq => inW _ (mT q hq)) hl (by omega) (by omega) ?_
    intro D zs tl2 h7 k7 j1 j2 j3 F7 N8
    have in7 : ∀ q ∈ Zq, q ∈ (D, LCg.lst zs) :: (tl2 ++ (tabs o1' o2' o3' ++ Zq)) := fun q hq => .tail _ (List.mem_append_right _ (inW q hq))
    clear F6 N6
    repeat' ((fail_if_success (with_reducible show wpAny _ _ (compareOp _ (Value.ref _) (Value.ref _)) _ _ _)); first | (k_unfold; (try dsimp only)) | (k_end; wrow_close) | walk1 | (dsimp only; walk1) | (leave1; walk_say "STEP leave1"; try dsimp only) | fail "no step")
    refine same_eq (s := { s with heap := h7, toks := _ }) N8 (.head _) j1 (fun q hq => .tail _ hq) (in7 _ (mZ _ hdu)) hdv (fun q hq => in7 _ (mZ q hq)) (dues_ok xs 0 hok) (by simp only []; omega) ?_
    repeat' ((fail_if_success (with_reducible show wpAny _ _ (compareOp _ (Value.ref _) (Value.ref _)) _ _ _)); first | (k_unfold; (try dsimp only)) | (k_end; wrow_close) | walk1 | (dsimp only; walk1) | (leave1; walk_say "STEP leave1"; try dsimp only) | fail "no step")
    refine same_eq (s := { s with heap := h7, toks := _ }) N8 (in7 _ mH) (strs_dat q1) (fun q hq => nomatch hq) (in7 _ (mZ _ hen)) (strs_dat hev) (fun q hq => nomatch hq) (endsD_ok hok) (by simp only []; omega) ?_
    exact hQ Zq o1' o2' o3' _ _ _ mZ hT5 F7 (news_sub N8 fun q hq => .tail _ (List.mem_append_right _ hq))
  · rintro j hj hgo _ R' U o2' t h5 k5 ⟨tl, hs, n', rfl, q1, q2⟩ hT4 fr4 F5 N5
    obtain ⟨hle, htk⟩ := go_not hj hgo
    rw [htk] at q1
    have N4 : News h₀ L h5 (tabs o1' o2' o3' ++ ((ha, listOf hs.toArray n') :: (tl ++ (U ++ W)))) := news_sub N5 fun q hq => by
      simp only [List.mem_append, List.mem_cons, List.not_mem_nil, or_false] at hq ⊢
      rcases hq with (h | h | h) | h | h | h | h <;> simp [h]
    have hT5 : Tab3 o1' o2' o3' ((ha, listOf hs.toArray n') :: (tl ++ (U ++ W))) := by
      have upW : ∀ q ∈ W, q ∈ (ha, listOf hs.toArray n') :: (tl ++ (U ++ W)) := fun q hq => .tail _ (List.mem_append_right _ (List.mem_append_right _ hq))
      refine ⟨hT2.1.mono upW, hT4.mono fun q hq => .tail _ (List.mem_append_right _ hq), hT2.2.2.1.mono upW, fun q hq => ?_⟩
      simp only [List.mem_cons, List.mem_append] at hq
      rcases hq with rfl | hq | hq | hq
      · exact ha3
      · exact bigger hlt (q2 q hq)
      · exact bigger hlt ((fr4 q hq).2 _ (.head _))
      · exact hT2.2.2.2 q hq
    generalize hZq : ((ha, listOf hs.toArray n') :: (tl ++ (U ++ W)) : Led) = Zq at N4 hT5
    have mH : (ha, listOf hs.toArray n') ∈ Zq := by rw [← hZq]; exact .head _
    have mZ : ∀ q ∈ Z, q ∈ Zq := fun q hq => by rw [← hZq]; exact .tail _ (List.mem_append_right _ (List.mem_append_right _ (mZ1 q hq)))
    clear hZq N5 fr4 hT4 N3 F3 hhaZ hhaW hrd2 hqf fr1 g1 g2 g3
    have inW : ∀ q ∈ Zq, q ∈ tabs o1' o2' o3' ++ Zq := fun q hq => List.mem_append_right _ hq
    have hyl : evs.length = (endsOf xs).length := hev.length
    have hel := endsOf_len xs
    repeat' ((fail_if_success (with_reducible show wpAny _ _ (call (Value.builtin "len") _ _) _ _ _)); first | (k_unfold; (try dsimp only)) | (k_end; wrow_close) | walk1 | (dsimp only; walk1) | (leave1; walk_say "STEP leave1"; try dsimp only) | fail "no step")
    (rename News h₀ L _ (tabs o1' o2' o3' ++ Zq) => N6)
    refine len_led N6 (inW _ (mZ _ hen)) (by omega) ?_
    rw [hyl]
    repeat' ((fail_if_success (with_reducible show wpAny _ _ (subscriptTail _ _ _ _) _ _ _)); first | (k_unfold; (try dsimp only)) | (k_end; wrow_close) | walk1 | (dsimp only; walk1) | (leave1; walk_say "STEP leave1"; try dsimp only) | fail "no step")
    (rename Fr h₀ L _ _ => F6)
    have hen6 := inW _ (mZ _ hen)
    (refine' kms_slice_lit (its := evs.toArray) (zs := evs.take stop.toNat) ?wF9 ?wN9 ?wl9 ?wp9 ?wq9 ?we9 ?_ ?ws9 ?wt9 ?wz9; (case wF9 => exact F6); (case wN9 => exact N6); (case wl9 => exact ⟨_, (N6 _ hen6).1, rfl, _, rfl⟩); (case wp9 => kmk_part); (case wq9 => kmk_part); (case we9 => exact upto_eq evs (by omega)); (case ws9 => with_unfolding_all rfl); (case wt9 => kmk_pure); (case wz9 => (rw [List.size_toArray, PySem.sizeLine_eq]; omega)))
    intro D h7 F7 N7 l7
    have hokS : ∀ d ∈ ((endsOf xs).take stop.toNat).map Dat.str, okB 6 d = true := fun d hd => by
      rw [List.map_take] at hd
      exact endsD_ok hok d (List.mem_of_mem_take hd)
    repeat' ((fail_if_success (with_reducible show wpAny _ _ (compareOp _ (Value.ref _) (Value.ref _)) _ _ _)); first | (k_unfold; (try dsimp only)) | (k_end; wrow_close) | walk1 | (dsimp only; walk1) | (leave1; walk_say "STEP leave1"; try dsimp only) | fail "no step")
    refine same_eq (s := { s with heap := _, toks := _ }) N7 (.tail _ (inW _ mH)) (strs_dat q1) (fun q hq => nomatch hq) (.head _) (strs_dat (strs_take hev stop.toNat)) (fun q hq => nomatch hq) hokS (by simp only []; omega) ?_
    exact hQ Zq o1' o2' o3' _ _ _ mZ hT5 F7 (news_sub N7 fun q hq => .tail _ hq)

theorem law_all {w : World} {p : Program} {loose : List Str} {mean : ExcName → Option Value} {mg mb : Str → Option Value}
    {dp un : Nat} {gd : Option (List Code)} {fa cT sc : Addr} {cd : Value} {A₀ : Around} {base h₀ : Heap} {L : Addr} {m : Str → Option Value} {s : Shared} {Q : Flow → Shared → Prop} {E : Value → Shared → Prop}
    {oT : Obj} {us : List Value} {ns : List Int}
    (AT : At w p loose mean mg mb (fnScope lawDef) [] A₀ base h₀ L m s.heap ((cT, oT) :: tabs (tabObj #[]) (tabObj #[]) (tabObj #[])))
    (XB : (Mine.hd.heap_39 w.params).In base) (TB : Top p loose mean mg mb base)
    (hm : m (Str.ofString "script") = some (.ref sc)) (hl : h₀.IsList sc us.toArray) (hi : IntsAre us ns) (hlen : ns.length ≤ 63) (hoT : oT.data = .cell none) (hcT : @LT.lt Nat _ 87 cT)
    (hdp : dp + 100 < recursionLimit) (hun : un + 1000 < cLine)
    (hE : PassesOwn (model PySem.Challenge.rw_ej5023_01.row.prog w) (ktrTop dp un gd lawQ (fnScope lawDef) L fa cd [(tx, cT)] []) (envX lawQ (fnScope lawDef) L fa cd [(tx, cT)]) E)
    (hQ : ∀ (Z' : Led) o1' o2' o3' m' h' tk', Tab3 o1' o2' o3' Z' → Fr h₀ L h' m' → News h₀ L h' (tabs o1' o2' o3' ++ Z') → Q (.ret (.bool true)) { s with heap := h', toks := tk' }) :
    wpAny (model PySem.Challenge.rw_ej5023_01.row.prog w) (ktrTop dp un gd lawQ (fnScope lawDef) L fa cd [(tx, cT)] []) (execs (fnBody lawDef) (envX lawQ (fnScope lawDef) L fa cd [(tx, cT)])) Q E s := by
  obtain ⟨B, F, X, T, hk, N, C1, C2, C3⟩ := AT
  have hcT2 : ∀ q ∈ tabs (tabObj #[]) (tabObj #[]) (tabObj #[]), q.1 < cT := by
    intro q hq
    simp only [List.mem_cons, List.not_mem_nil, or_false] at hq
    rcases hq with rfl | rfl | rfl
    · exact hcT
    · exact Nat.lt_trans (show @LT.lt Nat _ 64 87 by decide) hcT
    · exact Nat.lt_trans (show @LT.lt Nat _ 57 87 by decide) hcT
  refine law1 ⟨B, F, X, T, hk, N, C1, C2, C3⟩ hm hl hi hlen (by omega) (by omega) ?_ hE
  intro vs ws nv nn nD k t tl xs sp st D m1 h1 tk1 hv1 hv2 hk0 hk1 hws ms1 ms2 hD hok f1 f2 f3 f4 f5 F1 N1
  have hxl : xs.length ≤ 5 := by
    have := hD.length
    rw [List.length_map] at this
    omega
  refine law2 (s := { s with heap := h1, toks := tk1 }) ⟨B, F1, X, T, hk, N1, C1, C2, C3⟩ hv1 hv2 hk0 hk1 hws (by rw [List.length_take]; omega) ms1 ms2 hD hok f1 f2 f3 f4 f5 (by omega) (by omega) ?_
  intro sep ts stop stopE t1 t2 m2 h2 tk2 hsep s1 s2 s3 s4 b1 b2 b3 b4 F2 N2
  have hcs : @LT.lt Nat _ cT sp := Nat.lt_trans f2 (Nat.lt_trans f3 f4)
  refine law3 (s := { s with heap := h2, toks := tk2 }) ⟨B, F2, X, T, hk, N2, C1, C2, C3⟩ hv1 hv2 hsep b1 b2 hD hok (fun q hq => Nat.ne_of_lt (hcT2 q hq)) hcs f5 hoT (by omega) (by omega) ?_
  intro data ys Dt oT' tt m3 h3 tk3 hdata hys hoT' c1 c2 d1 d2 d3 F3 N3
  have hscan : scan data.cps.toList = (false, [], xs.map Span.codes) := by rw [hdata]; exact scan_data hsep hok
  have hdl : data.length ≤ 900 := by rw [hdata]; exact data_len hsep hok hxl
  have big : ∀ {b : Nat}, @LT.lt Nat _ 87 b → b ≠ 87 ∧ b ≠ 64 ∧ b ≠ 57 := fun {b} h => by omega
  have hT0 : Tab3 (tabObj #[]) (tabObj #[]) (tabObj #[]) ((cT, oT') :: (Dt, LCg.lst ys) :: (sp, listOf vs.toArray nv) :: tl) := by
    refine ⟨.inl rfl, .inl rfl, .inl rfl, fun q hq => ?_⟩
    simp only [List.mem_cons] at hq
    rcases hq with rfl | rfl | rfl | hq
    · exact big hcT
    · have z := fun q hq => d1 q (List.mem_append_right _ hq)
      exact ⟨Ne.symm (z _ (.head _)), Ne.symm (z _ (.tail _ (.head _))), Ne.symm (z _ (.tail _ (.tail _ (.head _))))⟩
    · exact big (Nat.lt_trans hcT hcs)
    · exact big (Nat.lt_trans (Nat.lt_trans hcT hcs) (f5 q hq))
  have N3' : News h₀ L h3 (tabs (tabObj #[]) (tabObj #[]) (tabObj #[]) ++ ((cT, oT') :: (Dt, LCg.lst ys) :: (sp, listOf vs.toArray nv) :: tl)) := news_sub N3 fun q hq => by
    simp only [List.mem_append, List.mem_cons, List.not_mem_nil, or_false] at hq ⊢
    rcases hq with (h | h | h) | h | h | h | h <;> simp [h]
  have hD3 : DatAll ((cT, oT') :: (Dt, LCg.lst ys) :: (sp, listOf vs.toArray nv) :: tl) vs (xs.map spanD) := hD.mono fun q hq => .tail _ (.tail _ (.tail _ hq))
  have z1 : (cT, oT') ∈ (cT, oT') :: (Dt, LCg.lst ys) :: (sp, listOf vs.toArray nv) :: tl := .head _
  have z2 : (Dt, LCg.lst ys) ∈ (cT, oT') :: (Dt, LCg.lst ys) :: (sp, listOf vs.toArray nv) :: tl := .tail _ (.head _)
  have z3 : (sp, listOf vs.toArray nv) ∈ (cT, oT') :: (Dt, LCg.lst ys) :: (sp, listOf vs.toArray nv) :: tl := .tail _ (.tail _ (.head _))
  clear N N1 N2 N3 F F1 F2
  generalize ((cT, oT') :: (Dt, LCg.lst ys) :: (sp, listOf vs.toArray nv) :: tl : Led) = Z3 at *
  refine law4 (s := { s with heap := h3, toks := tk3 }) ⟨B, F3, X, T, hk, N3', C1, C2, C3⟩ hT0 z1 hoT' z2 hys hxl hok c1 hscan hdl (by omega) (by omega) ?_
  intro Z4 o1 o2 m4 h4 tk4 up4 hT4 e4 F4 N4
  refine law5 (s := { s with heap := h4, toks := tk4 }) ⟨B, F4, X, T, hk, N4, C1, C2, C3⟩ hT4 (sp := sp) (vs := vs) (nv := nv) (xs := xs) ?_ (up4 _ z3) (hD3.mono up4) hxl (by omega) (by omega) hE ?_
  · exact (e4 _ (by decide) (by decide)).trans ((c2 _ (by decide)).trans b1)
  intro Z5 du en dvs evs nd ne m5 h5 tk5 up5 hT5 g1 g2 g3 g4 g5 g6 e5 F5 N5
  have m5t : m5 (Str.ofString "text") = some (.str data tt) := (e5 _ (by decide) (by decide) (by decide) (by decide) (by decide) (by decide) (by decide)).trans ((e4 _ (by decide) (by decide)).trans c1)
  have m5s : m5 (Str.ofString "stop") = some (.int stop t1) := (e5 _ (by decide) (by decide) (by decide) (by decide) (by decide) (by decide) (by decide)).trans ((e4 _ (by decide) (by decide)).trans ((c2 _ (by decide)).trans b3))
  have m5e : m5 (Str.ofString "stop_ends") = some (.int stopE t2) := (e5 _ (by decide) (by decide) (by decide) (by decide) (by decide) (by decide) (by decide)).trans ((e4 _ (by decide) (by decide)).trans ((c2 _ (by decide)).trans b4))
  refine law6 (s := { s with heap := h5, toks := tk5 }) ⟨B, F5, X, T, hk, N5, C1, C2, C3⟩ hT5 g1 g2 g3 g4 hxl hok m5t g5 g6 hscan hdl (by omega) (by omega) ?_
  intro Z6 o1 o2 o3 m6 h6 tk6 up6 hT6 e6 F6 N6
  refine law7 (s := { s with heap := h6, toks := tk6 }) ⟨B, F6, X, T, hk, N6, C1, C2, C3⟩ hT6 (by omega) (by omega) ?_
  intro Z7 ha n7 o1 o2 m7 h7 tk7 up7 hT7 i1 i2 i3 e7 F7 N7
  refine law8 (s := { s with heap := h7, toks := tk7 }) ⟨B, F7, X, T, hk, N7, C1, C2, C3⟩ hT7 XB TB i1 i2 i3 (by omega) (by omega) ?_
  intro Z8 o1 o3 m8 h8 tk8 up8 hT8 e8 F8 N8
  have up58 : ∀ q ∈ Z5, q ∈ Z8 := fun q hq => up8 q (up7 q (up6 q hq))
  have up38 : ∀ q ∈ Z3, q ∈ Z8 := fun q hq => up58 q (up5 q (up4 q hq))
  have e58 : ∀ y, y ≠ Str.ofString "told" → y ≠ Str.ofString "heard" → y ≠ Str.ofString "reader" → m8 y = m5 y := fun y a b c => (e8 y c).trans ((e7 y b).trans (e6 y a b))
  refine law9 (s := { s with heap := h8, toks := tk8 }) ⟨B, F8, X, T, hk, N8, C1, C2, C3⟩ hT8 XB TB (up38 _ z1) hoT' (up38 _ z2) hys hxl hok ((e58 _ (by decide) (by decide) (by decide)).trans m5t) ((e58 _ (by decide) (by decide) (by decide)).trans m5s) s1 s2 hscan hdl (by omega) (by omega) ?_
  intro Z9 o1 o2 m9 h9 tk9 up9 hT9 e9 F9 N9
  have up59 : ∀ q ∈ Z5, q ∈ Z9 := fun q hq => up9 q (up58 q hq)
  have e59 : ∀ y, y ≠ Str.ofString "told" → y ≠ Str.ofString "heard" → y ≠ Str.ofString "reader" → m9 y = m5 y := fun y a b c => (e9 y a b).trans (e58 y a b c)
  refine law10 (s := { s with heap := h9, toks := tk9 }) ⟨B, F9, X, T, hk, N9, C1, C2, C3⟩ hT9 XB TB (up59 _ g1) (g2.mono up59) (up59 _ g3) g4 hxl hok ((e59 _ (by decide) (by decide) (by decide)).trans m5t) ((e59 _ (by decide) (by decide) (by decide)).trans g5) ((e59 _ (by decide) (by decide) (by decide)).trans g6) ((e59 _ (by decide) (by decide) (by decide)).trans m5e) s3 s4 hscan hdl (by omega) (by omega) ?_
  intro Z10 o1 o2 o3 m10 h10 tk10 _ hT10 F10 N10
  exact hQ Z10 o1 o2 o3 m10 h10 tk10 hT10 F10 N10

theorem TabSt.obj {line col : Nat} {qual : Str} {o : Obj} {Z : Led} (h : TabSt line col qual o Z) : ∃ ps, o = tabObj ps := by
  rcases h with h | ⟨c', oc, vc, tc, h1, _⟩
  · exact ⟨_, h⟩
  · exact ⟨_, h1⟩
set_option maxHeartbeats 4000000 in
theorem main : PySem.Challenge.rw_ej5023_01.Holds := Mine.hd (by
  w_strict (k_go0)
  (rename News _ _ _ _ => N)
  (rename Fr _ _ _ _ => F)
  (rename Below _ _ _ _ => B)
  (rename Top _ _ _ _ _ (ghostOf _ _) => T)
  (rename (hd.heap_39 _).In (ghostOf _ _) => X)
  (rename (_ < _ ∧ _ < _ ∧ _ < _) => l0)
  (rename Heap.IsList (ghostOf _ _) _ _ => hl)
  (rename IntsAre _ _ => hi)
  refine law_all ⟨B, F, X, T, rfl, N, by assumption, by assumption, by assumption⟩ X T ?h1 hl hi ?h2 ?h3 ?h4 ?h5 ?h6 ?h7 ?h8
  case h1 => with_unfolding_all rfl
  case h2 => omega
  case h3 => (rename (_ = Data.cell _) => hoT); exact hoT.trans (by with_unfolding_all rfl)
  case h4 => exact Nat.lt_succ_of_lt l0.1
  case h5 => decide +kernel
  case h6 => decide +kernel
  case h7 => passes_own
  case h8 =>
    intro Z' o1 o2 o3 m' h' tk' hT9 F9 N9
    dsimp only
    clear N F
    obtain ⟨p1, rfl⟩ := hT9.1.obj
    obtain ⟨p2, rfl⟩ := hT9.2.1.obj
    obtain ⟨p3, rfl⟩ := hT9.2.2.1.obj
    refine ⟨?g1, ?g2⟩
    case g2 => exact ⟨GrownAt.of N9 (.head _), GrownAt.of N9 (.tail _ (.head _)), GrownAt.of N9 (.tail _ (.tail _ (.head _))), trivial⟩
    case g1 =>
      k_end
      wrow_close)

end Mine

theorem PySem.Challenge.cw_ej5023_01_holds : PySem.Challenge.rw_ej5023_01.Holds := by
  exact Mine.main
