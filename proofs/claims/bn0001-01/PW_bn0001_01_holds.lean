import PyProof.Rows.All
import Wide.All
import OpenK.AllK
import Wide.FinOn
import PySem.Challenge.RW_bn0001_01
open PySem PySem.W PySem.Calls PyProof.Rows PySem.Spec PyProof.V
set_option Elab.async false
set_option maxRecDepth 100000
set_option maxHeartbeats 20000000
set_option linter.all false
namespace Mine
section
local macro_rules | `(tactic| o_head $_) => `(tactic| skip)
/-- the part of the heap that the walk knows whole, written out; nothing else is used of this theorem -/
theorem top (h : PySem.Challenge.rw_bn0001_01.row.Holds) : PySem.Challenge.rw_bn0001_01.row.Holds := by
  k_head
  exact h
end
theorem filled : PySem.Challenge.rw_bn0001_01 = PySem.Challenge.rw_bn0001_01 ∧ top.heap_1 = top.heap_1 := by
  k_fill
  exact ⟨rfl, rfl⟩
section

/-- an object that bears the names m, whatever its slots -/
def NsObj (o : Obj) (m : Str → Option Value) : Prop := ∃ es ep, o.data = .dict es ep ∧ StrKeys es ∧ ∀ name, nsFind es name = m name
abbrev FrL := List (Env × (Str → Option Value))
abbrev Led := List (Addr × Obj)
def FrsAre : FrL → Led → Prop
  | [], [] => True
  | x :: l, p :: frs => x.1.scope.kind ≠ .module ∧ x.1.frame = some p.1 ∧ NsObj p.2 x.2 ∧ FrsAre l frs
  | _, _ => False

theorem NsObj.slots {o : Obj} {m : Str → Option Value} (h : NsObj o m) (sl : Array (Option Value)) : NsObj { o with slots := sl } m := h
theorem NsObj.ns {o : Obj} {m : Str → Option Value} {h : Heap} {L : Addr} (x : NsObj o m) (e : h.get? L = some o) : h.Ns L m :=
  let ⟨es, ep, d, k, f⟩ := x; ⟨o, es, ep, e, d, k, f⟩
theorem NsObj.noFields {o : Obj} {m : Str → Option Value} (x : NsObj o m) : ∀ vs, o.data ≠ .fields vs := fun vs q => by
  obtain ⟨es, ep, d, _⟩ := x; rw [d] at q; cases q

inductive TailAt (tl : Led) : Led → (Led → Led) → Prop
  | here : TailAt tl tl (fun t => t)
  | cons {p r g} : TailAt tl r g → TailAt tl (p :: r) (fun t => p :: g t)
theorem TailAt.split {tl : Led} : ∀ {news : Led} {g : Led → Led}, TailAt tl news g → ∃ ex, news = ex ++ tl ∧ ∀ t, g t = ex ++ t
  | _, _, .here => ⟨[], rfl, fun _ => rfl⟩
  | _, _, .cons (p := p) h => let ⟨ex, a, b⟩ := h.split; ⟨p :: ex, by rw [a]; rfl, fun t => by show p :: _ = _; rw [b]; rfl⟩

def Apart (as : List Addr) (tl : Led) : Prop := ∀ p ∈ tl, p.1 ∉ as
theorem Apart.ne {as : List Addr} {tl : Led} {d : Addr} (h : Apart as tl) (hd : d ∈ as) : ∀ p ∈ tl, p.1 ≠ d := fun p hp e => h p hp (e ▸ hd)
theorem Apart.ne' {as : List Addr} {tl : Led} {d : Addr} {p : Addr × Obj} (h : Apart as tl) (hd : d ∈ as) (hp : p ∈ tl) : d ≠ p.1 := fun e => h p hp (e ▸ hd)
theorem allLt_mem {d : Addr} : ∀ {l : Led}, AllLt d l → ∀ p ∈ l, p.1 < d
  | [], _, _, h => nomatch h
  | _ :: _, x, _, h => by
    rcases List.mem_cons.mp h with rfl | h
    · exact x.1
    · exact allLt_mem x.2 _ h
theorem allLt_ne {d : Addr} {l : Led} (h : AllLt d l) : ∀ p ∈ l, p.1 ≠ d := fun p hp => Nat.ne_of_lt (allLt_mem h p hp)

theorem FrsAre.inv {x : Env × (Str → Option Value)} {l : FrL} {frs : Led} (h : FrsAre (x :: l) frs) : ∃ L o frs', frs = (L, o) :: frs' ∧ x.1.scope.kind ≠ .module ∧ x.1.frame = some L ∧ NsObj o x.2 ∧ FrsAre l frs' := by
  cases frs with
  | nil => exact False.elim h
  | cons p r => exact ⟨p.1, p.2, r, rfl, h⟩
theorem FrsAre.noFields : ∀ {l : FrL} {frs : Led}, FrsAre l frs → ∀ p ∈ frs, ∀ vs, p.2.data ≠ .fields vs
  | [], [], _, _, h => nomatch h
  | [], _ :: _, h, _, _ => False.elim h
  | _ :: _, [], h, _, _ => False.elim h
  | _ :: _, _ :: _, h, p, hp => by
    rcases List.mem_cons.mp hp with rfl | hp
    · exact h.2.2.1.noFields
    · exact FrsAre.noFields h.2.2.2 p hp
theorem FrsAre.addrs : ∀ {l : FrL} {frs : Led}, FrsAre l frs → (l.map (·.1)).filterMap (·.frame) = frs.map (·.1)
  | [], [], _ => rfl
  | [], _ :: _, h => False.elim h
  | _ :: _, [], h => False.elim h
  | x :: l, p :: r, h => by
    simp only [List.map_cons, List.filterMap_cons, h.2.1, FrsAre.addrs h.2.2.2]
/-- the frames stand up to their slots -/
theorem FrsAre.up {h' : Heap} : ∀ {l : FrL} {frs : Led}, FrsAre l frs → (∀ p ∈ frs, ∃ sl, h'.get? p.1 = some { p.2 with slots := sl }) →
    ∃ frs', FrsAre l frs' ∧ frs'.map (·.1) = frs.map (·.1) ∧ ∀ q ∈ frs', h'.get? q.1 = some q.2
  | [], [], _, _ => ⟨[], trivial, rfl, fun _ h => nomatch h⟩
  | [], _ :: _, h, _ => False.elim h
  | _ :: _, [], h, _ => False.elim h
  | x :: l, p :: r, h, k => by
    obtain ⟨fr, a, b, c⟩ := FrsAre.up h.2.2.2 fun q hq => k q (List.mem_cons_of_mem _ hq)
    obtain ⟨sl, hs⟩ := k p List.mem_cons_self
    refine ⟨(p.1, { p.2 with slots := sl }) :: fr, ⟨h.1, h.2.1, h.2.2.1.slots sl, a⟩, by simp only [List.map_cons, b], fun q hq => ?_⟩
    rcases List.mem_cons.mp hq with rfl | hq
    · exact hs
    · exact c q hq
theorem FrsAre.fun {h base : Heap} : ∀ {l : FrL} {frs : Led}, FrsAre l frs → (∀ p ∈ frs, h.get? p.1 = some p.2 ∧ base.get? p.1 = none) → h.FunFrames base (l.map (·.1))
  | [], [], _, _ => trivial
  | [], _ :: _, h, _ => False.elim h
  | _ :: _, [], h, _ => False.elim h
  | _ :: _, p :: _, h, k => ⟨h.1, ⟨p.1, p.2, h.2.1, (k p List.mem_cons_self).2, (k p List.mem_cons_self).1, h.2.2.1.noFields⟩, FrsAre.fun h.2.2.2 fun q hq => k q (List.mem_cons_of_mem _ hq)⟩

theorem Apart.of_addrs {as : List Addr} {rest frs frs' : Led} (h : Apart as (rest ++ frs)) (e : frs'.map (·.1) = frs.map (·.1)) : Apart as (rest ++ frs') := fun p hp => by
  rcases List.mem_append.mp hp with hp | hp
  · exact h p (List.mem_append_left _ hp)
  · have : p.1 ∈ frs.map (·.1) := e ▸ List.mem_map_of_mem hp
    obtain ⟨q, hq, e⟩ := List.mem_map.mp this
    exact e ▸ h q (List.mem_append_right _ hq)

def FrSep (hb : Heap) (rest : Led) : Led → Prop
  | [] => True
  | p :: r => hb.objs.size ≤ p.1 ∧ (∀ q ∈ rest ++ r, q.1 ≠ p.1) ∧ FrSep hb rest r
theorem ne_of_addrs {rest r r' : Led} {a : Addr} (h : ∀ q ∈ rest ++ r, q.1 ≠ a) (e : r'.map (·.1) = r.map (·.1)) : ∀ q ∈ rest ++ r', q.1 ≠ a := fun q hq => by
  rcases List.mem_append.mp hq with hq | hq
  · exact h q (List.mem_append_left _ hq)
  · have : q.1 ∈ r.map (·.1) := e ▸ List.mem_map_of_mem hq
    obtain ⟨z, hz, e⟩ := List.mem_map.mp this
    exact e ▸ h z (List.mem_append_right _ hz)
theorem FrSep.of_addrs {hb : Heap} {rest : Led} : ∀ {frs frs' : Led}, FrSep hb rest frs → frs'.map (·.1) = frs.map (·.1) → FrSep hb rest frs'
  | [], [], _, _ => trivial
  | [], _ :: _, _, e => nomatch e
  | _ :: _, [], _, e => nomatch e
  | p :: r, p' :: r', h, e => by
    simp only [List.map_cons, List.cons.injEq] at e
    exact ⟨e.1 ▸ h.1, by rw [e.1]; exact ne_of_addrs h.2.1 e.2, h.2.2.of_addrs e.2⟩

/-- the tail of the ledger: what stands by (rest), the frames below (frs) -/
structure Tl (hb : Heap) (as : List Addr) (l : FrL) (rest frs : Led) : Prop where
  are : FrsAre l frs
  apart : Apart as (rest ++ frs)
  sep : FrSep hb rest frs

/-- the end of a def that was entered by «enter» -/
def LeaveM (_hb : Heap) (_L : Addr) (_m : Str → Option Value) (R : Result → Shared → Prop) (v : Value) (s' : Shared) : Prop := R (.ok (.ret v)) s'

section
variable {prog : Program} {w : World} {A : Around} {E : Value → Shared → Prop} {s s' : Shared} {K : Frag} {L L' f : Addr} {hb : Heap} {m m' mg mb : Str → Option Value} {news ex rest frs : Led} {p : Program} {loose : List Str} {mean : ExcName → Option Value}
  {as : List Addr} {l : FrL} {g : Led → Led} {env : Env} {R : Result → Shared → Prop} {name qual : Str} {params : Arguments} {body : List Stmt} {scope : Scope} {dV kV doc pm cdv ct oc : Value} {an od : Option Addr} {osl : Array (Option Value)} {args : Args} {binds : List (Str × Value)}

theorem enter (F : Fr hb L s.heap m) (X₀ : K.In hb) (N : News hb L s.heap news) (T : Top p loose mean mg mb hb) (TL : Tl hb as l rest frs) (TA : TailAt (rest ++ frs) news g) (has : ∀ a ∈ as, ∃ o, (a, o) ∈ news)
    (_hA : A.frames = some (env :: l.map (·.1))) (hf : env.frame = some L) (hke : env.scope.kind = .function)
    (ho : K.lookup f = some ⟨oc, od, .func (fnOf name qual params body scope dV kV doc pm an cdv ct), osl⟩) (hcd : codeIn K cdv qual = true) (hroom : A.depth < recursionLimit)
    (hbind : BindsTo s (fnOf name qual params body scope dV kV doc pm an cdv ct) args binds) (hloc : ∀ y ∈ binds, scope.names.lookup y.1 = some .local)
    (h : ∀ frs' L' h₁, Tl hb as ((env, m) :: l) rest frs' → Fr hb L' h₁ (fun y => binds.reverse.lookup y) → News hb L' h₁ (g (rest ++ frs')) →
      wpAny (model prog w) (A.deeper (envOf qual scope L' f cdv)) (execs body (envOf qual scope L' f cdv))
        (fun fl s' => LeaveM hb L m R (match fl with | .ret v => v | _ => .none) s')
        (fun e s' => wpAny (model prog w) (A.deeper (envOf qual scope L' f cdv)) (leaving (envOf qual scope L' f cdv) e) (fun _ s'' => R (.error e) s'') (fun e' s'' => R (.error e') s'') s')
        { s with heap := h₁, toks := s.toks + binds.length })
    (hco : scope.isCoroutine = false) (hgen : scope.isGenerator = false) (hk : scope.kind = .function)
    (hcell : ∀ x ∈ scope.names, x.2 ≠ .cell) : codeAny (model prog w) A (.call (.ref f) args) R s := by
  have X := X₀.keeps F.keep
  obtain ⟨oL, es, ep, hL, hLd, hLk, hLf⟩ := F.ns
  have hLt := Heap.lt_size hL
  obtain ⟨ex, rfl, hg⟩ := TA.split
  refine codeAny_call_def (fd := fnOf name qual params body scope dV kV doc pm an cdv ct) (body := body) (binds := binds) hroom (X _ _ ho) rfl (T.nolimit.keeps F.keep) (codeRec_of X hcd) rfl hbind hcell hloc (fun h₁ hns hk₁ => ?_) hco hgen hk
  have Lnone : hb.get? L = none := Heap.get?_none_of_le F.above
  refine h ((L, oL) :: frs) s.heap.objs.size h₁ ⟨⟨by rw [hke]; decide, hf, ⟨es, ep, hLd, hLk, hLf⟩, TL.are⟩, fun q hq => ?_, ⟨F.above, fun q hq => (N q (List.mem_append_right _ hq)).2.1, TL.sep⟩⟩ ⟨hns, fun b o e => hk₁ b o (F.keep b o e), Nat.le_trans F.above (Nat.le_of_lt hLt)⟩ (hg _ ▸ fun q hq => ?_)
  · rcases List.mem_append.mp hq with hq | hq
    · exact TL.apart q (List.mem_append_left _ hq)
    · rcases List.mem_cons.mp hq with rfl | hq
      · intro hm
        obtain ⟨o, hm⟩ := has _ hm
        exact (N _ hm).2.1 rfl
      · exact TL.apart q (List.mem_append_right _ hq)
  · have old : ∀ q ∈ ex ++ (rest ++ frs), h₁.get? q.1 = some q.2 ∧ q.1 ≠ s.heap.objs.size ∧ hb.get? q.1 = none := fun q hq =>
      ⟨hk₁ _ _ (N q hq).1, Nat.ne_of_lt (Heap.lt_size (N q hq).1), (N q hq).2.2⟩
    rcases List.mem_append.mp hq with hq | hq
    · exact old q (List.mem_append_left _ hq)
    · rcases List.mem_append.mp hq with hq | hq
      · exact old q (List.mem_append_right _ (List.mem_append_left _ hq))
      · rcases List.mem_cons.mp hq with rfl | hq
        · exact ⟨hk₁ _ _ hL, Nat.ne_of_lt hLt, Lnone⟩
        · exact old q (List.mem_append_right _ (List.mem_append_right _ hq))

/-- from the frame back to its caller's: heap h, the ledger's named part ex -/
theorem back {h : Heap} (TL : Tl hb as ((env, m) :: l) rest frs) (hf : env.frame = some L) (F' : Fr hb L' h m') (N' : News hb L' h news) (hex : ∀ q ∈ ex, q ∈ news ∧ ∀ z ∈ frs, z.1 ≠ q.1) (htl : ∀ q ∈ rest ++ frs, q ∈ news) :
    ∃ frs', Tl hb as l rest frs' ∧ Fr hb L h m ∧ News hb L h (ex ++ (rest ++ frs')) ∧ ∀ d, AllLt d (rest ++ frs) → AllLt d (rest ++ frs') := by
  obtain ⟨are, apart, sep⟩ := TL
  obtain ⟨L₀, oL, frs', rfl, h1, h2, h3, h4⟩ := are.inv
  rw [hf] at h2
  cases h2
  have hL := N' (L, oL) (htl _ (List.mem_append_right _ List.mem_cons_self))
  refine ⟨frs', ⟨h4, fun q hq => apart q ?_, sep.2.2⟩, ⟨h3.ns hL.1, F'.keep, sep.1⟩, fun q hq => ?_, fun d hd => allLt_of fun q hq => allLt_mem hd q ?_⟩
  · rcases List.mem_append.mp hq with hq | hq
    · exact List.mem_append_left _ hq
    · exact List.mem_append_right _ (List.mem_cons_of_mem _ hq)
  · rcases List.mem_append.mp hq with hq | hq
    · obtain ⟨a, b⟩ := hex q hq
      exact ⟨(N' q a).1, (b _ List.mem_cons_self).symm, (N' q a).2.2⟩
    · have hq' : q ∈ rest ++ ((L, oL) :: frs') := by
        rcases List.mem_append.mp hq with hq | hq
        · exact List.mem_append_left _ hq
        · exact List.mem_append_right _ (List.mem_cons_of_mem _ hq)
      have := N' q (htl q hq')
      exact ⟨this.1, sep.2.1 q hq, this.2.2⟩
  · rcases List.mem_append.mp hq with hq | hq
    · exact List.mem_append_left _ hq
    · exact List.mem_append_right _ (List.mem_cons_of_mem _ hq)
theorem leaveM (TL : Tl hb as ((env, m) :: l) rest frs) (hf : env.frame = some L) (F' : Fr hb L' s'.heap m') (N' : News hb L' s'.heap news) (hex : ∀ q ∈ ex, q ∈ news ∧ ∀ z ∈ frs, z.1 ≠ q.1) (htl : ∀ q ∈ rest ++ frs, q ∈ news) {v : Value}
    (k : ∀ frs', Tl hb as l rest frs' → Fr hb L s'.heap m → News hb L s'.heap (ex ++ (rest ++ frs')) → R (.ok (.ret v)) s') : LeaveM hb L m R v s' :=
  let ⟨frs', a, b, c, _⟩ := back TL hf F' N' hex htl; k frs' a b c
theorem leaveM1 {t : Addr} {ot : Obj} (TL : Tl hb as ((env, m) :: l) rest frs) (hf : env.frame = some L) (F' : Fr hb L' s'.heap m') (N' : News hb L' s'.heap news) (ht : AllLt t (rest ++ frs)) (h0 : (t, ot) ∈ news) (hex : ∀ q ∈ ex, q ∈ news ∧ ∀ z ∈ frs, z.1 ≠ q.1) (htl : ∀ q ∈ rest ++ frs, q ∈ news) {v : Value}
    (k : ∀ frs', Tl hb as l rest frs' → Fr hb L s'.heap m → News hb L s'.heap ((t, ot) :: (ex ++ (rest ++ frs'))) → AllLt t (rest ++ frs') → R (.ok (.ret v)) s') : LeaveM hb L m R v s' :=
  let ⟨frs', a, b, c, d⟩ := back (ex := (t, ot) :: ex) TL hf F' N' (fun q hq => by
    rcases List.mem_cons.mp hq with rfl | hq
    · exact ⟨h0, fun z hz => allLt_ne ht z (List.mem_append_right _ hz)⟩
    · exact hex q hq) htl; k frs' a b c (d _ ht)
theorem Tl.ne {d : Addr} (TL : Tl hb as l rest frs) (hd : d ∈ as) : ∀ z ∈ frs, z.1 ≠ d := fun z hz => TL.apart.ne hd z (List.mem_append_right _ hz)
theorem lt_ne {d : Addr} (h : AllLt d (rest ++ frs)) : ∀ z ∈ frs, z.1 ≠ d := fun z hz => allLt_ne h z (List.mem_append_right _ hz)
end
end
section

/-- the exception that is being handled and the one that it came in, if any -/
def Hd (hd : Option Value) (h : Heap) : Prop := hd = none ∨ ∃ e0 oe vs c, hd = some (.ref e0) ∧ h.get? e0 = some oe ∧ oe.data = .fields vs ∧ vs[2]? = some c ∧
  (c = .none ∨ ∃ e1 o1 vs1, c = .ref e1 ∧ e1 ≠ e0 ∧ h.get? e1 = some o1 ∧ o1.data = .fields vs1 ∧ vs1[2]? = some .none)
theorem Hd.keeps {hd : Option Value} {h h' : Heap} (H : Hd hd h) (k : ∀ b o, h.get? b = some o → h'.get? b = some o) : Hd hd h' := by
  rcases H with H | ⟨e0, oe, vs, c, a1, a2, a3, a4, a5⟩
  · exact .inl H
  · refine .inr ⟨e0, oe, vs, c, a1, k _ _ a2, a3, a4, ?_⟩
    rcases a5 with a5 | ⟨e1, o1, vs1, b1, b2, b3, b4, b5⟩
    · exact .inl a5
    · exact .inr ⟨e1, o1, vs1, b1, b2, k _ _ b3, b4, b5⟩
/-- the same, said of the ledger's standing part -/
def HdL (hd : Option Value) (rest : Led) : Prop := hd = none ∨ ∃ e0 oe vs c, hd = some (.ref e0) ∧ (e0, oe) ∈ rest ∧ oe.data = .fields vs ∧ vs[2]? = some c ∧
  (c = .none ∨ ∃ e1 o1 vs1, c = .ref e1 ∧ e1 ≠ e0 ∧ (e1, o1) ∈ rest ∧ o1.data = .fields vs1 ∧ vs1[2]? = some .none)
theorem HdL.hd {hd : Option Value} {rest : Led} {h : Heap} (H : HdL hd rest) (k : ∀ q ∈ rest, h.get? q.1 = some q.2) : Hd hd h := by
  rcases H with H | ⟨e0, oe, vs, c, a1, a2, a3, a4, a5⟩
  · exact .inl H
  · refine .inr ⟨e0, oe, vs, c, a1, k _ a2, a3, a4, ?_⟩
    rcases a5 with a5 | ⟨e1, o1, vs1, b1, b2, b3, b4, b5⟩
    · exact .inl a5
    · exact .inr ⟨e1, o1, vs1, b1, b2, k _ b3, b4, b5⟩

structure NewX (h h' : Heap) (e : Addr) (cls c : Value) : Prop where
  keeps : ∀ b o, h.get? b = some o → h'.get? b = some o
  new : h.get? e = none
  there : ∃ ob vs, h'.get? e = some ob ∧ ob.cls = cls ∧ ob.data = .fields vs ∧ vs[1]? = some .none ∧ vs[2]? = some c
theorem NewX.of {h h' : Heap} {e : Addr} {X : String} (x : Heap.NewExc h h' e X) : NewX h h' e (.type X) .none :=
  ⟨x.keeps, x.new, let ⟨ob, _, a, b, c⟩ := x.there; ⟨ob, _, a, b, c, rfl, rfl⟩⟩

theorem entry_unchain : entryFor table "proto.unchain" = some Builtin.«proto.unchain» := entryFor_of_tree (by kernel_rfl)

section
variable {prog : Program} {w : World} {A : Around} {E : Value → Shared → Prop} {s : Shared}

theorem unchain0 {e e0 : Addr} {slow : Value} {b : Bool} {oe : Obj} {vs : Array Value} {R : Result → Shared → Prop} (h0 : s.heap.get? e0 = some oe) (hd : oe.data = .fields vs) (h2 : vs[2]? = some .none) (h : R (.ok (.ret .none)) s) :
    codeAny (model prog w) A (.builtin "proto.unchain" ⟨[.ref e, .ref e0, slow, .bool b], []⟩) R s := by
  refine codeAny_builtin entry_unchain ?_
  show wpAny _ _ (field (.ref e0) 2 >>= _) _ _ _
  refine wpAny_bind (wpAny_field h0 hd h2 ?_)
  rw [if_pos (show (Value.none == Value.none) = true from by decide)]
  exact wpAny_pure h
theorem unchain1 {e e0 e1 : Addr} {oe o1 : Obj} {vs vs1 : Array Value} {R : Result → Shared → Prop} (h0 : s.heap.get? e0 = some oe) (hd : oe.data = .fields vs) (h2 : vs[2]? = some (.ref e1)) (hne : e1 ≠ e) (hne' : e1 ≠ e0)
    (h1 : s.heap.get? e1 = some o1) (hd1 : o1.data = .fields vs1) (h21 : vs1[2]? = some .none) (h : R (.ok (.ret .none)) s) :
    codeAny (model prog w) A (.builtin "proto.unchain" ⟨[.ref e, .ref e0, .ref e0, .bool false], []⟩) R s := by
  refine codeAny_builtin entry_unchain ?_
  show wpAny _ _ (field (.ref e0) 2 >>= _) _ _ _
  refine wpAny_bind (wpAny_field h0 hd h2 ?_)
  have n1 : (Value.ref e1 == Value.none) = false := rfl
  have n2 : (Value.ref e1 == Value.ref e) = false := by simpa using hne
  have n3 : (Value.ref e1 == Value.ref e0) = false := by simpa using hne'
  simp only [n1, n2, n3, Bool.false_eq_true, if_false]
  refine wpAny_bind (wpAny_pure (wpAny_pure ⟨Code.quiet_builtin _ (by decide +kernel), ?_⟩))
  exact unchain0 h1 hd1 h21 h

theorem raiseNew_any {α : Type} {Q : α → Shared → Prop} {h0 : Heap} {e : Addr} {ob : Obj} {vs : Array Value} (H : Hd A.handled h0) (k : ∀ b o, h0.get? b = some o → s.heap.get? b = some o) (hn : h0.get? e = none)
    (he : s.heap.get? e = some ob) (hd : ob.data = .fields vs) (h1 : vs[1]? = some .none) (h2 : vs[2]? = some .none) (h : ∀ h', NewX h0 h' e ob.cls (A.handled.getD .none) → E (.ref e) { s with heap := h' }) :
    wpAny (model prog w) A (raiseNew (.ref e) : Sem α) Q E s := by
  unfold raiseNew
  refine wpAny_bind (wpAny_handled ?_)
  have hsz : 2 < vs.size := (Array.getElem?_eq_some_iff.mp h2).1
  rcases H with H | ⟨e0, oe, ws, c, a1, a2, a3, a4, a5⟩
  · rw [H] at h ⊢
    have := h s.heap ⟨k, hn, ob, vs, he, rfl, hd, h1, h2⟩
    first
      | exact wpAny_throw this
      | exact wpAny_bind (wpAny_pure (wpAny_throw this))
  · rw [a1] at h ⊢
    have ne0 : e0 ≠ e := fun q => by rw [q, hn] at a2; cases a2
    have n0 : (Value.ref e0 != Value.ref e) = true := by simpa using ne0
    have hd' := Obj.data_mapFields hd (·.setIfInBounds 2 (Value.ref e0))
    have fin : wpAny (model prog w) A (do updateField e 2 (.ref e0); throw (Value.ref e) : Sem α) Q E s := by
      unfold updateField
      refine wpAny_bind (wpAny_bind (wpAny_load he ?_))
      rw [hd]
      dsimp only
      rw [if_pos hsz]
      refine wpAny_updatePart (part := none) he (wpAny_throw (h _ ⟨fun b o hb => ?_, hn, _, _, Heap.get?_update_self _ he (Obj.isFreed_of_fields hd'), Obj.cls_mapFields _ _, hd', ?_, ?_⟩))
      · rw [Heap.get?_update_other _ _ (fun q => by rw [← q, hn] at hb; cases hb)]
        exact k b o hb
      · rw [Array.getElem?_setIfInBounds_ne (by decide)]; exact h1
      · simp [hsz]
    dsimp only
    rw [if_pos n0]
    have un : wpAny (model prog w) A (holding [.ref e] (runValue (.builtin "proto.unchain" ⟨[.ref e, .ref e0, .ref e0, .bool false], []⟩))) (fun _ s' => s' = s) E s := by
      refine wpAny_holding (wpAny_runValue ?_)
      rcases a5 with rfl | ⟨e1, o1, ws1, rfl, b2, b3, b4, b5⟩
      · exact unchain0 (k _ _ a2) a3 a4 rfl
      · exact unchain1 (k _ _ a2) a3 a4 (fun q => by rw [q, hn] at b3; cases b3) b2 (k _ _ b3) b4 b5 rfl
    exact wpAny_bind (wpAny_mono un (fun _ s' q => by rw [q]; exact fin) fun _ _ x => x)

theorem raise_new_any {α : Type} {Q : α → Shared → Prop} {cls : String} {args : List Value} (hp : PlainExc cls) (H : Hd A.handled s.heap)
    (h : ∀ h' e, NewX s.heap h' e (.type cls) (A.handled.getD .none) → E (.ref e) { s with heap := h' }) (hsz : args.length ≤ sizeLine := by size_fits) :
    wpAny (model prog w) A (do raiseNew (← newExc (.type cls) args) : Sem α) Q E s := by
  refine wpAny_bind ?_
  unfold newExc newTuple
  refine wpAny_bind (wpAny_newObj_type ?_ (show args.toArray.size ≤ sizeLine by simpa using hsz))
  refine wpAny_bind (m := firstArgMember _ _) (wpAny_of_eq (a := Value.none) (by simp only [firstArgMember, hp.first]; rfl) ?_)
  rw [hp.own]
  refine wpAny_newObj_type ?_ (by size_fits)
  exact raiseNew_any (h0 := s.heap) H (fun b o hb => Heap.get?_push_of_some _ (Heap.get?_push_of_some _ hb)) (Heap.get?_none_of_le (by simp)) (Heap.get?_push_size _ rfl) rfl rfl rfl fun h' x => h h' _ x

theorem pop_missing_meets {k : Int} {key : Value} (d : Addr) (hkey : (PySem.intKind prog w).is k key = true) (lo : (d == sysModules) = false) (hpart : (keyPart key).isSome = true) :
    MeetsIn prog w (Builtin.«dict.pop» ⟨[.ref d, key], []⟩) (fun A R s => Hd A.handled s.heap ∧ ∃ kvs, s.heap.DictOf (PySem.intKind prog w) d kvs ∧ valueAt kvs k = none ∧
      ∀ h' e, NewX s.heap h' e (.type "KeyError") (A.handled.getD .none) → R (.error (.ref e)) { s with heap := h', toks := s.toks + 1 }) :=
  .of_wp fun A R s ⟨hh, kvs, hm, hf, h⟩ => by
    unfold Builtin.«dict.pop»
    refine wpAny_bind ?_
    unfold Builtin.Dict.keyAndDefault
    refine wpAny_bind (wpAny_notOrdered_dict hm.typeIs ?_)
    show wpAny _ _ (pure (d, key, none)) _ _ s
    refine wpAny_pure ?_
    simp only [hpart, if_true]
    refine wpAny_bind (wpAny_pure ?_)
    simp only [Bool.false_eq_true, if_false]
    refine wpAny_bind (wpAny_takeOut_pairs_none hkey hm hf ?_)
    simp only [Option.isNone_none, if_true]
    refine wpAny_bind (wpAny_missedRemoval_other lo ?_)
    exact wpAny_bind (wpAny_rule (raise_new_any (A := A.in1) plainExc_KeyError hh h))

theorem pop_missing {h₀ : Heap} {L d : Addr} {news : Led} {o : Obj} {kvs : List (Int × Value)} {k : Int} {t : Tok} {Q : Value → Shared → Prop} (H : Hd A.handled s.heap) (N : News h₀ L s.heap news) (hp : (d, o) ∈ news)
    (hd : o.IsDictOf (PySem.intKind prog w) kvs) (lo : (d == sysModules) = false) (hl : valueAt kvs k = none)
    (h : ∀ h' e, NewX s.heap h' e (.type "KeyError") (A.handled.getD .none) → E (.ref e) { s with heap := h', toks := s.toks + 1 }) :
    wpAny (model prog w) A (call (.builtin "dict.pop") [.ref d, .int k t]) Q E s :=
  have hD := kda_dict N hp hd
  call_meetsIn PySem.F.slot_dict_pop hD.typeIs PySem.F.entry_dict_pop (PySem.F.args_dict_pop_2 _ _) (pop_missing_meets d (intKind_is _ _ _ _) lo rfl) ⟨H, kvs, hD, hl, h⟩
end

section
variable {M : Model} {A : Around} {E : Value → Shared → Prop} {s : Shared}
/-- a new entry of the traceback: the frames' slots turn, the exception's field 1 -/
theorem entry_core {base : Heap} {env : Env} {outer : List Env} {L e : Addr} {oe : Obj} {vs : Array Value} {head : Value} {hadNext : Bool} {Q : Unit → Shared → Prop}
    (hfr : A.frames = some (env :: outer)) (hl : s.heap.FunFrames base (env :: outer)) (hf : env.frame = some L) (he : s.heap.get? e = some oe) (hd : oe.data = .fields vs) (hsz : 1 < vs.size)
    (h : ∀ h' oT ts, h'.get? e = some (oe.mapFields (·.setIfInBounds 1 (.ref s.heap.objs.size))) → h'.get? s.heap.objs.size = some oT → oT.data = .fields ts → ts[3]? = some (rawInt L) →
      (∀ b o, b ∉ (env :: outer).filterMap (·.frame) → b ≠ e → s.heap.get? b = some o → h'.get? b = some o) →
      (∀ b o, b ≠ e → s.heap.get? b = some o → ∃ sl, h'.get? b = some { o with slots := sl }) → Q () { s with heap := h' }) :
    wpAny M A (do let a ← frameOf env; let pl ← entryPlaceOf L hadNext; let b ← EntryCells.newEntry head a .none (rawInt L) .none pl; setField (.ref e) 1 b) Q E s := by
  have hene : e ∉ (env :: outer).filterMap (·.frame) := fun hm => by
    obtain ⟨_, o, ho, hnf⟩ := hl.mem hm
    rw [he] at ho; injection ho with ho; subst ho; exact hnf vs hd
  refine wpAny_bind (wpAny_frameOf_fun hfr hl hf fun h₁ hs₁ => ?_)
  refine wpAny_bind (wpAny_entryPlaceOf fun pl hpl => ?_)
  unfold EntryCells.newEntry newFields
  refine wpAny_bind (wpAny_newObj_type ?_ (hpl.sizeOk5 _ _ _ _ _))
  have he₁ : h₁.get? e = some oe := (hs₁.2.1 e hene).trans he
  have he₂ := Heap.get?_push_of_some (h := h₁) { cls := .type "traceback", dict := none, data := .fields ([head, .ref L, .none, rawInt L, .none] ++ (if pl.isEmpty then List.replicate 6 Value.none else pl)).toArray } he₁
  have hTe : h₁.objs.size ≠ e := Nat.ne_of_gt (Heap.lt_size he₁)
  have hd₃ := Obj.data_mapFields hd (·.setIfInBounds 1 (Value.ref h₁.objs.size))
  have he₃ := Heap.get?_update_self (Obj.mapFields (·.setIfInBounds 1 (Value.ref h₁.objs.size))) he₂ (Obj.isFreed_of_fields hd₃)
  have hT₃ := (Heap.get?_update_other (h₁.push { cls := .type "traceback", dict := none, data := .fields ([head, .ref L, .none, rawInt L, .none] ++ (if pl.isEmpty then List.replicate 6 Value.none else pl)).toArray })
    (Obj.mapFields (·.setIfInBounds 1 (Value.ref h₁.objs.size))) (Ne.symm hTe)).trans (Heap.get?_push_size h₁ rfl)
  have keep : ∀ b o, b ≠ e → h₁.get? b = some o →
      ((h₁.push { cls := .type "traceback", dict := none, data := .fields ([head, .ref L, .none, rawInt L, .none] ++ (if pl.isEmpty then List.replicate 6 Value.none else pl)).toArray }).update e (Obj.mapFields (·.setIfInBounds 1 (Value.ref h₁.objs.size)))).get? b = some o := fun b o hbe hb => by
    rw [Heap.get?_update_other _ _ (Ne.symm hbe)]
    exact Heap.get?_push_of_some _ hb
  have es : h₁.objs.size = s.heap.objs.size := hs₁.1
  refine wpAny_setField he₂ hd hsz ?_
  rw [es] at he₃ hT₃ keep ⊢
  refine h _ _ _ he₃ hT₃ rfl (by simp) (fun b o hb hbe ho => keep b o hbe ((hs₁.2.1 b hb).trans ho)) fun b o hbe ho => ?_
  obtain ⟨sl, hs⟩ := hs₁.2.2 b o ho
  exact ⟨sl, keep b _ hbe hs⟩
end
end
section

/-- an exception that a handler holds -/
structure HeldE (hb : Heap) (L : Addr) (h : Heap) (news : Led) (e : Addr) (oe : Obj) : Prop where
  there : h.get? e = some oe
  ne : e ≠ L
  new : hb.get? e = none
  off : ∀ q ∈ news, q.1 ≠ e
/-- an exception on its way: fl is what its newest traceback entry says -/
structure Fly (hb : Heap) (L : Addr) (h : Heap) (news : Led) (e : Addr) (cls c fl : Value) : Prop where
  there : ∃ T oe vs oT ts, h.get? e = some oe ∧ oe.cls = cls ∧ oe.data = .fields vs ∧ vs[1]? = some (.ref T) ∧ vs[2]? = some c ∧ h.get? T = some oT ∧ oT.data = .fields ts ∧ ts[3]? = some fl ∧ T ≠ e ∧ hb.get? T = none ∧ T ≠ L ∧ ∀ q ∈ news, q.1 ≠ T
  ne : e ≠ L
  new : hb.get? e = none
  off : ∀ q ∈ news, q.1 ≠ e

theorem FrSep.off {hb : Heap} {rest : Led} : ∀ {frs : Led}, FrSep hb rest frs → ∀ z ∈ frs, ∀ q ∈ rest, q.1 ≠ z.1
  | [], _, _, h => nomatch h
  | p :: r, h, z, hz => by
    rcases List.mem_cons.mp hz with rfl | hz
    · exact fun q hq => h.2.1 q (List.mem_append_left _ hq)
    · exact FrSep.off h.2.2 z hz

section
variable {M : Model} {prog : Program} {w : World} {A₀ : Around} {E : Value → Shared → Prop} {s' : Shared} {hb h : Heap} {L a e : Addr} {m : Str → Option Value} {name : Str} {scope : Scope} {cd cls c : Value} {Q : Unit → Shared → Prop} {as : List Addr} {l : FrL} {news ex rest frs : Led}

/-- the common end of «noteFrame»: from the heap s'.heap, where all stands, to one with a new entry -/
theorem note_end {oe : Obj} {vs : Array Value} {head : Value} {hadNext : Bool} (hfr : A₀.frames = some (l.map (·.1))) (TL : Tl hb as l rest frs) (F : Fr hb L s'.heap m) (N : News hb L s'.heap news) (hex : ∀ q ∈ ex, q ∈ news ∧ ∀ z ∈ frs, z.1 ≠ q.1) (htl : ∀ q ∈ rest ++ frs, q ∈ news)
    (he : s'.heap.get? e = some oe) (hcls : oe.cls = cls) (hd : oe.data = .fields vs) (hsz : 1 < vs.size) (h2 : vs[2]? = some c) (neL : e ≠ L) (new : hb.get? e = none) (off : ∀ q ∈ news, q.1 ≠ e) (hk : scope.kind = .function)
    (k : ∀ h' frs', Tl hb as l rest frs' → Fr hb L h' m → News hb L h' (ex ++ (rest ++ frs')) → Fly hb L h' (ex ++ (rest ++ frs')) e cls c (rawInt L) → Q () { s' with heap := h' }) :
    wpAny M (A₀.deeper (envOf name scope L a cd)) (do let a ← frameOf (envOf name scope L a cd); let pl ← entryPlaceOf L hadNext; let b ← EntryCells.newEntry head a .none (rawInt L) .none pl; setField (.ref e) 1 b) Q E s' := by
  obtain ⟨are, apart, sep⟩ := TL
  obtain ⟨oL, es, ep, hL, hLd, hLk, hLf⟩ := F.ns
  have Lnone : hb.get? L = none := Heap.get?_none_of_le F.above
  have ff : s'.heap.FunFrames hb (envOf name scope L a cd :: l.map (·.1)) := ⟨by show scope.kind ≠ .module; rw [hk]; decide, ⟨L, oL, rfl, Lnone, hL, fun vs q => by rw [hLd] at q; cases q⟩, are.fun fun q hq => ⟨(N q (htl q (List.mem_append_right _ hq))).1, (N q (htl q (List.mem_append_right _ hq))).2.2⟩⟩
  have fs : (envOf name scope L a cd :: l.map (·.1)).filterMap (·.frame) = L :: frs.map (·.1) := by
    have e1 : (envOf name scope L a cd :: l.map (·.1)).filterMap (·.frame) = L :: (l.map (·.1)).filterMap (·.frame) := rfl
    rw [e1, are.addrs]
  refine entry_core (Around.frames_deeper hfr) ff rfl he hd hsz fun h' oT ts x1 x2 x3 x4 x5 x6 => ?_
  rw [fs] at x5
  obtain ⟨frs', f1, f2, f3⟩ := are.up (h' := h') fun q hq => x6 q.1 q.2 (off q (htl q (List.mem_append_right _ hq))) (N q (htl q (List.mem_append_right _ hq))).1
  have there : ∀ q ∈ ex ++ (rest ++ frs'), ∃ z ∈ news, z.1 = q.1 := fun q hq => by
    rcases List.mem_append.mp hq with hq | hq
    · exact ⟨q, (hex q hq).1, rfl⟩
    · rcases List.mem_append.mp hq with hq | hq
      · exact ⟨q, htl q (List.mem_append_left _ hq), rfl⟩
      · have : q.1 ∈ frs.map (·.1) := f2 ▸ List.mem_map_of_mem hq
        obtain ⟨z, hz, e⟩ := List.mem_map.mp this
        exact ⟨z, htl z (List.mem_append_right _ hz), e⟩
  have keep : ∀ q ∈ news, (∀ z ∈ frs, z.1 ≠ q.1) → h'.get? q.1 = some q.2 := fun q hq hz => x5 q.1 q.2 (fun hm => by
    rcases List.mem_cons.mp hm with e | hm
    · exact (N q hq).2.1 e
    · obtain ⟨z, hz', e⟩ := List.mem_map.mp hm
      exact hz z hz' e) (off q hq) (N q hq).1
  have F' : Fr hb L h' m := by
    obtain ⟨sl, hs⟩ := x6 L oL (Ne.symm neL) hL
    refine ⟨⟨_, es, ep, hs, hLd, hLk, hLf⟩, fun b o hbo => x5 b o (fun hm => ?_) (fun q => by rw [q, new] at hbo; cases hbo) (F.keep b o hbo), F.above⟩
    rcases List.mem_cons.mp hm with e | hm
    · rw [e, Lnone] at hbo; cases hbo
    · obtain ⟨z, hz, e⟩ := List.mem_map.mp hm
      have := (N z (htl z (List.mem_append_right _ hz))).2.2
      rw [← e, this] at hbo; cases hbo
  have N' : News hb L h' (ex ++ (rest ++ frs')) := fun q hq => by
    obtain ⟨z, hz, ez⟩ := there q hq
    refine ⟨?_, ez ▸ (N z hz).2.1, ez ▸ (N z hz).2.2⟩
    rcases List.mem_append.mp hq with hq | hq
    · exact keep q (hex q hq).1 (hex q hq).2
    · rcases List.mem_append.mp hq with hq | hq
      · exact keep q (htl q (List.mem_append_left _ hq)) fun z hz => (sep.off z hz q hq).symm
      · exact f3 q hq
  have Tn : s'.heap.get? s'.heap.objs.size = none := Heap.get?_none_of_le (Nat.le_refl _)
  refine k h' frs' ⟨f1, apart.of_addrs f2, sep.of_addrs f2⟩ F' N' ⟨⟨s'.heap.objs.size, _, vs.setIfInBounds 1 (.ref s'.heap.objs.size), oT, ts, x1, (Obj.cls_mapFields _ _).trans hcls, Obj.data_mapFields hd _, by simp [hsz], by rw [Array.getElem?_setIfInBounds_ne (by decide)]; exact h2, x2, x3, x4, ?_, ?_, ?_, fun q hq => ?_⟩, neL, new, fun q hq => ?_⟩
  · exact Nat.ne_of_gt (Heap.lt_size he)
  · cases q : hb.get? s'.heap.objs.size with
    | none => rfl
    | some o => rw [F.keep _ _ q] at Tn; cases Tn
  · exact Nat.ne_of_gt (Heap.lt_size hL)
  · obtain ⟨z, hz, ez⟩ := there q hq
    exact ez ▸ Nat.ne_of_lt (Heap.lt_size (N z hz).1)
  · obtain ⟨z, hz, ez⟩ := there q hq
    exact ez ▸ off z hz

theorem Fr.keepsX {h' : Heap} (F : Fr hb L h m) (hk : ∀ b o, h.get? b = some o → h'.get? b = some o) : Fr hb L h' m :=
  let ⟨o, es, ep, ho, r⟩ := F.ns; ⟨⟨o, es, ep, hk _ _ ho, r⟩, fun b o q => hk b o (F.keep b o q), F.above⟩
theorem News.keepsX {h' : Heap} (N : News hb L h news) (hk : ∀ b o, h.get? b = some o → h'.get? b = some o) : News hb L h' news := fun q hq => ⟨hk _ _ (N q hq).1, (N q hq).2⟩

theorem note_new (hx : NewX h s'.heap e cls c) (F : Fr hb L h m) (N : News hb L h news) (TL : Tl hb as l rest frs) (hfr : A₀.frames = some (l.map (·.1))) (hex : ∀ q ∈ ex, q ∈ news ∧ ∀ z ∈ frs, z.1 ≠ q.1) (htl : ∀ q ∈ rest ++ frs, q ∈ news) (hk : scope.kind = .function)
    (k : ∀ h' frs', Tl hb as l rest frs' → Fr hb L h' m → News hb L h' (ex ++ (rest ++ frs')) → Fly hb L h' (ex ++ (rest ++ frs')) e cls c (rawInt L) → Q () { s' with heap := h' }) :
    wpAny M (A₀.deeper (envOf name scope L a cd)) (noteFrame (.ref e) (envOf name scope L a cd)) Q E s' := by
  obtain ⟨kp, new, ob, vs, he, hcls, hd, h1, h2⟩ := hx
  have F' := Fr.keepsX F kp
  have N' := News.keepsX N kp
  unfold noteFrame
  simp only [show (envOf name scope L a cd).frame = some L from rfl]
  refine wpAny_bind (wpAny_field he hd h1 ?_)
  rw [if_neg (by decide)]
  refine note_end hfr TL F' N' hex htl he hcls hd (Array.getElem?_eq_some_iff.mp h1).1 h2 (fun q => ?_) ?_ (fun q hq e' => ?_) hk k
  · obtain ⟨oL, _, _, hL, _⟩ := F.ns
    rw [q, hL] at new; cases new
  · cases q : hb.get? e with
    | none => rfl
    | some o => rw [F.keep _ _ q] at new; cases new
  · have := (N q hq).1
    rw [e', new] at this; cases this

theorem note_fly (hx : Fly hb L s'.heap news e cls c .none) (F : Fr hb L s'.heap m) (N : News hb L s'.heap news) (TL : Tl hb as l rest frs) (hfr : A₀.frames = some (l.map (·.1))) (hex : ∀ q ∈ ex, q ∈ news ∧ ∀ z ∈ frs, z.1 ≠ q.1) (htl : ∀ q ∈ rest ++ frs, q ∈ news) (hk : scope.kind = .function)
    (k : ∀ h' frs', Tl hb as l rest frs' → Fr hb L h' m → News hb L h' (ex ++ (rest ++ frs')) → Fly hb L h' (ex ++ (rest ++ frs')) e cls c (rawInt L) → Q () { s' with heap := h' }) :
    wpAny M (A₀.deeper (envOf name scope L a cd)) (noteFrame (.ref e) (envOf name scope L a cd)) Q E s' := by
  obtain ⟨⟨T, oe, vs, oT, ts, he, hcls, hd, h1, h2, hT, hdT, h3, hTe, hTb, hTL, hTn⟩, neL, new, off⟩ := hx
  unfold noteFrame
  simp only [show (envOf name scope L a cd).frame = some L from rfl]
  refine wpAny_bind (wpAny_field he hd h1 ?_)
  rw [if_pos (show (Value.ref T != Value.none) = true from by simp)]
  refine wpAny_bind (wpAny_field hT hdT h3 ?_)
  rw [if_neg (show ¬ ((Value.none == rawInt L) = true) from by simp [rawInt])]
  refine wpAny_bind (wpAny_setField hT hdT (Array.getElem?_eq_some_iff.mp h3).1 ?_)
  have other : ∀ b, b ≠ T → (s'.heap.update T (Obj.mapFields (·.setIfInBounds 3 Value.none))).get? b = s'.heap.get? b := fun b hb' => Heap.get?_update_other _ _ (Ne.symm hb')
  have F' : Fr hb L (s'.heap.update T (Obj.mapFields (·.setIfInBounds 3 Value.none))) m := by
    obtain ⟨oL, es, ep, hL, r⟩ := F.ns
    exact ⟨⟨oL, es, ep, (other L (Ne.symm hTL)).trans hL, r⟩, fun b o q => (other b fun z => by rw [z, hTb] at q; cases q).trans (F.keep b o q), F.above⟩
  have N' : News hb L (s'.heap.update T (Obj.mapFields (·.setIfInBounds 3 Value.none))) news := fun q hq => ⟨(other _ (hTn q hq)).trans (N q hq).1, (N q hq).2⟩
  exact note_end (s' := { s' with heap := s'.heap.update T (Obj.mapFields (·.setIfInBounds 3 Value.none)) }) hfr TL F' N' hex htl ((other e (Ne.symm hTe)).trans he) hcls hd (Array.getElem?_eq_some_iff.mp h1).1 h2 neL new off hk k

theorem land_fly {A : Around} {fl : Value} (hx : Fly hb L s'.heap news e cls c fl) (F : Fr hb L s'.heap m) (N : News hb L s'.heap news)
    (k : ∀ h', Fr hb L h' m → News hb L h' news → Fly hb L h' news e cls c .none → Q () { s' with heap := h' }) : wpAny M A (setFlight (.ref e) none) Q E s' := by
  obtain ⟨⟨T, oe, vs, oT, ts, he, hcls, hd, h1, h2, hT, hdT, h3, hTe, hTb, hTL, hTn⟩, neL, new, off⟩ := hx
  unfold setFlight
  refine wpAny_bind (wpAny_field he hd h1 ?_)
  rw [if_pos (show (Value.ref T != Value.none) = true from by simp)]
  have hsz := (Array.getElem?_eq_some_iff.mp h3).1
  refine wpAny_setField hT hdT hsz ?_
  have other : ∀ b, b ≠ T → (s'.heap.update T (Obj.mapFields (·.setIfInBounds 3 ((none : Option Addr).elim Value.none fun f => rawInt f)))).get? b = s'.heap.get? b := fun b hb' => Heap.get?_update_other _ _ (Ne.symm hb')
  have hdT' := Obj.data_mapFields hdT (·.setIfInBounds 3 ((none : Option Addr).elim Value.none fun f => rawInt f))
  refine k _ ?_ (fun q hq => ⟨(other _ (hTn q hq)).trans (N q hq).1, (N q hq).2⟩) ⟨⟨T, oe, vs, _, _, (other e (Ne.symm hTe)).trans he, hcls, hd, h1, h2, Heap.get?_update_self _ hT (Obj.isFreed_of_fields hdT'), hdT', by simp [hsz], hTe, hTb, hTL, hTn⟩, neL, new, off⟩
  obtain ⟨oL, es, ep, hL, r⟩ := F.ns
  exact ⟨⟨oL, es, ep, (other L (Ne.symm hTL)).trans hL, r⟩, fun b o q => (other b fun z => by rw [z, hTb] at q; cases q).trans (F.keep b o q), F.above⟩

theorem Fly.sub {fl : Value} {news' : Led} (hx : Fly hb L h news e cls c fl) (hs : ∀ q ∈ news', ∃ z ∈ news, z.1 = q.1) : Fly hb L h news' e cls c fl := by
  obtain ⟨⟨T, oe, vs, oT, ts, he, hcls, hd, h1, h2, hT, hdT, h3, hTe, hTb, hTL, hTn⟩, neL, new, off⟩ := hx
  exact ⟨⟨T, oe, vs, oT, ts, he, hcls, hd, h1, h2, hT, hdT, h3, hTe, hTb, hTL, fun q hq => by obtain ⟨z, hz, e⟩ := hs q hq; exact e ▸ hTn z hz⟩, neL, new, fun q hq => by obtain ⟨z, hz, e⟩ := hs q hq; exact e ▸ off z hz⟩
theorem Fly.frame {fl : Value} {L' : Addr} {o : Obj} (hx : Fly hb L h news e cls c fl) (hm : (L', o) ∈ news) : Fly hb L' h news e cls c fl := by
  obtain ⟨⟨T, oe, vs, oT, ts, he, hcls, hd, h1, h2, hT, hdT, h3, hTe, hTb, hTL, hTn⟩, neL, new, off⟩ := hx
  exact ⟨⟨T, oe, vs, oT, ts, he, hcls, hd, h1, h2, hT, hdT, h3, hTe, hTb, (hTn _ hm).symm, hTn⟩, (off _ hm).symm, new, off⟩

variable {env : Env} {L₁ : Addr} {m₁ : Str → Option Value}
/-- behind «noteFrame» and «setFlight none» in a frame that the exception leaves: the caller's -/
theorem fly_back {fl : Value} (TL : Tl hb as ((env, m₁) :: l) rest frs) (hf : env.frame = some L₁) (F : Fr hb L h m) (N : News hb L h news) (hx : Fly hb L h news e cls c fl) (hex : ∀ q ∈ ex, q ∈ news ∧ ∀ z ∈ frs, z.1 ≠ q.1) (htl : ∀ q ∈ rest ++ frs, q ∈ news) :
    ∃ frs', Tl hb as l rest frs' ∧ Fr hb L₁ h m₁ ∧ News hb L₁ h (ex ++ (rest ++ frs')) ∧ Fly hb L₁ h (ex ++ (rest ++ frs')) e cls c fl := by
  obtain ⟨frs', a, b, c, _⟩ := back TL hf F N hex htl
  obtain ⟨L₀, oL, frs₂, rfl, h1, h2, h3, h4⟩ := TL.are.inv
  rw [hf] at h2
  cases h2
  refine ⟨frs', a, b, c, (hx.frame (htl _ (List.mem_append_right _ List.mem_cons_self))).sub fun q hq => ?_⟩
  rcases List.mem_append.mp hq with hq | hq
  · exact ⟨q, (hex q hq).1, rfl⟩
  · rcases List.mem_append.mp hq with hq | hq
    · exact ⟨q, htl q (List.mem_append_left _ hq), rfl⟩
    · have e1 := a.are.addrs
      have e2 := h4.addrs
      have : q.1 ∈ frs₂.map (·.1) := by rw [← e2, e1]; exact List.mem_map_of_mem hq
      obtain ⟨z, hz, ez⟩ := List.mem_map.mp this
      exact ⟨z, htl z (List.mem_append_right _ (List.mem_cons_of_mem _ hz)), ez⟩

theorem leave_new (hx : NewX h s'.heap e cls c) (F : Fr hb L h m) (N : News hb L h news) (TL : Tl hb as ((env, m₁) :: l) rest frs) (hf : env.frame = some L₁) (hfr : A₀.frames = some (env :: l.map (·.1))) (hex : ∀ q ∈ ex, q ∈ news ∧ ∀ a ∈ [q.1], a ∈ as) (htl : ∀ q ∈ rest ++ frs, q ∈ news) (hk : scope.kind = .function)
    (k : ∀ h' frs', Tl hb as l rest frs' → Fr hb L₁ h' m₁ → News hb L₁ h' (ex ++ (rest ++ frs')) → Fly hb L₁ h' (ex ++ (rest ++ frs')) e cls c .none → Q () { s' with heap := h' }) :
    wpAny M (A₀.deeper (envOf name scope L a cd)) (leaving (envOf name scope L a cd) (.ref e)) Q E s' := by
  unfold leaving
  have ap : ∀ {fr : Led}, Tl hb as ((env, m₁) :: l) rest fr → ∀ q ∈ ex, ∀ z ∈ fr, z.1 ≠ q.1 := fun T q hq => T.ne ((hex q hq).2 _ (.head _))
  refine wpAny_bind (note_new hx F N TL hfr (fun q hq => ⟨(hex q hq).1, ap TL q hq⟩) htl hk fun h₁ frs₁ T₁ F₁ N₁ X₁ => ?_)
  refine land_fly X₁ F₁ N₁ fun h₂ F₂ N₂ X₂ => ?_
  obtain ⟨frs₂, T₂, F₃, N₃, X₃⟩ := fly_back T₁ hf F₂ N₂ X₂ (fun q hq => ⟨List.mem_append_left _ hq, ap T₁ q hq⟩) (fun q hq => List.mem_append_right _ hq)
  exact k h₂ frs₂ T₂ F₃ N₃ X₃
theorem leave_fly (hx : Fly hb L s'.heap news e cls c .none) (F : Fr hb L s'.heap m) (N : News hb L s'.heap news) (TL : Tl hb as ((env, m₁) :: l) rest frs) (hf : env.frame = some L₁) (hfr : A₀.frames = some (env :: l.map (·.1))) (hex : ∀ q ∈ ex, q ∈ news ∧ ∀ a ∈ [q.1], a ∈ as) (htl : ∀ q ∈ rest ++ frs, q ∈ news) (hk : scope.kind = .function)
    (k : ∀ h' frs', Tl hb as l rest frs' → Fr hb L₁ h' m₁ → News hb L₁ h' (ex ++ (rest ++ frs')) → Fly hb L₁ h' (ex ++ (rest ++ frs')) e cls c .none → Q () { s' with heap := h' }) :
    wpAny M (A₀.deeper (envOf name scope L a cd)) (leaving (envOf name scope L a cd) (.ref e)) Q E s' := by
  unfold leaving
  have ap : ∀ {fr : Led}, Tl hb as ((env, m₁) :: l) rest fr → ∀ q ∈ ex, ∀ z ∈ fr, z.1 ≠ q.1 := fun T q hq => T.ne ((hex q hq).2 _ (.head _))
  refine wpAny_bind (note_fly hx F N TL hfr (fun q hq => ⟨(hex q hq).1, ap TL q hq⟩) htl hk fun h₁ frs₁ T₁ F₁ N₁ X₁ => ?_)
  refine land_fly X₁ F₁ N₁ fun h₂ F₂ N₂ X₂ => ?_
  obtain ⟨frs₂, T₂, F₃, N₃, X₃⟩ := fly_back T₁ hf F₂ N₂ X₂ (fun q hq => ⟨List.mem_append_left _ hq, ap T₁ q hq⟩) (fun q hq => List.mem_append_right _ hq)
  exact k h₂ frs₂ T₂ F₃ N₃ X₃
end

section
variable {prog : Program} {w : World} {A₀ : Around} {E : Value → Shared → Prop} {s' : Shared} {hb h : Heap} {L a e : Addr} {m mg mb : Str → Option Value} {name : Str} {scope : Scope} {cd c : Value} {news : Led} {KF : Frag} {p : Program} {loose : List Str} {mean : ExcName → Option Value}
  {b₀ : Stmt} {suite : List Stmt} {pos np : Pos} {rest : List ExceptHandler} {Q : Flow → Shared → Prop} {x : Str} {X T' : String} {fl : Value}
theorem handle_hit (hx : Fly hb L s'.heap news e (.type X) c fl) (F : Fr hb L s'.heap m) (N : News hb L s'.heap news) (XB : KF.In hb) (TB : Top p loose mean mg mb hb)
    (ex : nsIn KF mainGlobals x = some none) (hv : bootBuiltins x = some (.type T')) (hn' : x ≠ "__name__")
    (hexc : isSubtype (.type T') (.type "BaseException") = pure true) (hnt : isSubtype (.type ((Manifest.find? T').elim "type" fun y => y.metatype)) (.type "tuple") = pure false) (hsub : isSubtype (.type X) (.type T') = pure true)
    (k : ∀ h' oe vs, Fr hb L h' m → News hb L h' news → HeldE hb L h' news e oe → oe.data = .fields vs → vs[2]? = some c →
      wpAny (model prog w) ((A₀.deeper (envOf name scope L a cd)).mark (some (.ref e))) (execs (b₀ :: suite) (envOf name scope L a cd)) Q E { s' with heap := h' })
    (hk : scope.kind = .function) (hxk : (envOf name scope L a cd).kindOf x = some .globalImplicit) (hd : (x == ("__debug__" : Str)) = false)
    (hE : PassesOwnAt (model prog w) ((A₀.deeper (envOf name scope L a cd)).mark (some (.ref e))) (A₀.deeper (envOf name scope L a cd)) (envOf name scope L a cd) E) :
    wpAny (model prog w) (A₀.deeper (envOf name scope L a cd)) (handleBy (.ref e) (envOf name scope L a cd) (.ExceptHandler (some (.Name x np)) none (b₀ :: suite) pos :: rest)) Q E s' := by
  have hob : ∃ ob, s'.heap.get? e = some ob ∧ ob.cls = .type X := by
    obtain ⟨⟨T, oe, vs, oT, ts, he, hcls, _⟩, _⟩ := hx
    exact ⟨oe, he, hcls⟩
  refine wpAny_handleBy_builtin (X := X) (T := T') (b := true) hexc hnt hsub (name_B F XB (topRead_of TB) ex hv hn' ⟨rfl, hob, ?_⟩ hk hxk hd)
  rw [if_pos rfl]
  refine land_fly hx F N fun h₂ F₂ N₂ X₂ => wpAny_passesOwnAt hE ?_
  obtain ⟨⟨T, oe, vs, oT, ts, he, hcls, hd', h1, h2, _⟩, neL, new, off⟩ := X₂
  exact k h₂ oe vs F₂ N₂ ⟨he, neL, new, off⟩ hd' h2
end
end
section
/-- an exception just made, about to be raised within (it may be) a handler; h0: the heap before it was made -/
def AboutX (hd : Option Value) (E : Value → Shared → Prop) (v : Value) (s₁ : Shared) : Prop :=
  ∃ h0 a ob vs X N I, ExcClass X N I ∧ v = .ref a ∧ (∀ b o, h0.get? b = some o → s₁.heap.get? b = some o) ∧ h0.get? a = none ∧ Hd hd h0 ∧ s₁.heap.get? a = some ob ∧ ob.cls = .type X ∧ ob.data = .fields vs ∧ vs[1]? = some .none ∧ vs[2]? = some .none ∧ 4 < vs.size ∧
    ∀ h', NewX h0 h' a (.type X) (hd.getD .none) → E (.ref a) { s₁ with heap := h' }
section
variable {prog : Program} {w : World} {A : Around} {E : Value → Shared → Prop} {s : Shared} {env : Env}
theorem call_excX {X N I : String} (hc : ExcClass X N I) {rest : List Value} (H : Hd A.handled s.heap) (h : ∀ h' e, NewX s.heap h' e (.type X) (A.handled.getD .none) → E (.ref e) { s with heap := h' }) (hrest : rest.length ≤ sizeLine := by size_fits) :
    wpAny (model prog w) A (call (.type X) rest) (AboutX A.handled E) E s :=
  call_exc (hrest := hrest) hc fun h' e hx => by
    obtain ⟨ob, t, he, hcls, hd⟩ := hx.there
    exact ⟨s.heap, e, ob, _, X, N, I, hc, rfl, hx.keeps, hx.new, H, he, hcls, hd, rfl, rfl, by show 4 < 6; decide, fun h'' x => h h'' e x⟩
theorem raiseX {e : Expr} {pos : Pos} {Q : Flow → Shared → Prop} (h : wpAny (model prog w) A (eval e env) (AboutX A.handled E) E s) : wpAny (model prog w) A (exec (.Raise (some e) none pos) env) Q E s := by
  show wpAny _ A (do standAt pos; raiseStmt env (some (do let v ← eval e env; standAt pos; pure v)) none) Q E s
  refine wpAny_bind (wpAny_standAt ?_)
  unfold raiseStmt
  dsimp only
  refine wpAny_bind (wpAny_bind (wpAny_mono h (fun v s₁ h₁ => wpAny_bind (wpAny_standAt (wpAny_pure ?_))) fun _ _ x => x))
  obtain ⟨h0, a, ob, vs, X, N, I, hc, rfl, kp, hn, H, ha, hcls, hd, h1, h2, h4, hE⟩ := h₁
  have hT : s₁.TypeIs (.ref a) X := ⟨ob, ha, hcls⟩
  have hnt : ∀ {Q' : Bool → Shared → Prop}, Q' false s₁ → wpAny (model prog w) A (isType (.ref a)) Q' E s₁ := by
    intro Q' hq
    simp only [isType, loadHead]
    refine wpAny_bind (wpAny_loadPart ha ?_)
    rw [hd]; exact wpAny_pure hq
  refine wpAny_bind (wpAny_pure ?_)
  dsimp only
  refine wpAny_bind (wpAny_holding ?_)
  unfold excFromValue isExcClass
  refine wpAny_bind (wpAny_bind (hnt ?_))
  simp only [Bool.false_eq_true, if_false]
  refine wpAny_pure ?_
  simp only [Bool.false_eq_true, if_false]
  refine wpAny_bind (wpAny_isInstance hT hc.base ?_)
  simp only [if_true]
  refine wpAny_pure ?_
  refine wpAny_bind (hnt ?_)
  simp only [Bool.false_eq_true, if_false]
  unfold raisedInstance
  refine wpAny_bind (wpAny_bind (wpAny_typeOf hT (wpAny_bind (m := typeOf (.type X)) (wpAny_pure ?_))))
  rw [if_pos hc.metaType]
  refine wpAny_pure ?_
  unfold setFlight
  refine wpAny_bind (wpAny_bind (wpAny_field ha hd h1 ?_))
  rw [if_neg (by decide)]
  exact wpAny_pure (raiseNew_any H kp hn ha hd h1 h2 (hcls ▸ hE))
theorem raiseFromX {e : Expr} {pos cpos : Pos} {kd : Nat} {Q : Flow → Shared → Prop} (h : wpAny (model prog w) A (eval e env) (AboutX A.handled E) E s) : wpAny (model prog w) A (exec (.Raise (some e) (some (.Constant .none kd cpos)) pos) env) Q E s := by
  show wpAny _ A (do standAt pos; raiseStmt env (some (do let v ← eval e env; standAt pos; pure v)) (some (do let v ← eval (.Constant .none kd cpos) env; standAt pos; pure v))) Q E s
  refine wpAny_bind (wpAny_standAt ?_)
  unfold raiseStmt
  dsimp only
  refine wpAny_bind (wpAny_bind (wpAny_mono h (fun v s₁ h₁ => wpAny_bind (wpAny_standAt (wpAny_pure ?_))) fun _ _ x => x))
  obtain ⟨h0, a, ob, vs, X, N, I, hc, rfl, kp, hn, H, ha, hcls, hd, h1, h2, h4, hE⟩ := h₁
  have hT : s₁.TypeIs (.ref a) X := ⟨ob, ha, hcls⟩
  have hnt : ∀ {Q' : Bool → Shared → Prop}, Q' false s₁ → wpAny (model prog w) A (isType (.ref a)) Q' E s₁ := by
    intro Q' hq
    simp only [isType, loadHead]
    refine wpAny_bind (wpAny_loadPart ha ?_)
    rw [hd]; exact wpAny_pure hq
  refine wpAny_bind (wpAny_holding (wpAny_bind ?_))
  refine wpAny_Constant_none ?_
  refine wpAny_bind (wpAny_standAt (wpAny_pure ?_))
  refine wpAny_bind (wpAny_pure ?_)
  refine wpAny_bind (wpAny_holding ?_)
  unfold excFromValue isExcClass
  refine wpAny_bind (wpAny_bind (hnt ?_))
  simp only [Bool.false_eq_true, if_false]
  refine wpAny_pure ?_
  simp only [Bool.false_eq_true, if_false]
  refine wpAny_bind (wpAny_isInstance hT hc.base ?_)
  simp only [if_true]
  refine wpAny_pure ?_
  rw [if_pos (show (Value.none == Value.none) = true from by decide)]
  refine wpAny_bind (wpAny_pure ?_)
  refine wpAny_bind (wpAny_setField ha hd (by omega) ?_)
  have hd3 := Obj.data_mapFields hd (·.setIfInBounds 3 Value.none)
  have ha3 := Heap.get?_update_self (Obj.mapFields (·.setIfInBounds 3 Value.none)) ha (Obj.isFreed_of_fields hd3)
  refine wpAny_bind (wpAny_setField ha3 hd3 (by rw [Array.size_setIfInBounds]; omega) ?_)
  have hd4 := Obj.data_mapFields hd3 (·.setIfInBounds 4 (Value.bool true))
  have ha4 := Heap.get?_update_self (Obj.mapFields (·.setIfInBounds 4 (Value.bool true))) ha3 (Obj.isFreed_of_fields hd4)
  have hc4 : (Obj.mapFields (·.setIfInBounds 4 (Value.bool true)) (Obj.mapFields (·.setIfInBounds 3 Value.none) ob)).cls = .type X := (Obj.cls_mapFields _ _).trans ((Obj.cls_mapFields _ _).trans hcls)
  have h14 : ((vs.setIfInBounds 3 Value.none).setIfInBounds 4 (Value.bool true))[1]? = some .none := by rw [Array.getElem?_setIfInBounds_ne (by decide), Array.getElem?_setIfInBounds_ne (by decide)]; exact h1
  have h24 : ((vs.setIfInBounds 3 Value.none).setIfInBounds 4 (Value.bool true))[2]? = some .none := by rw [Array.getElem?_setIfInBounds_ne (by decide), Array.getElem?_setIfInBounds_ne (by decide)]; exact h2
  have kp4 : ∀ b o, h0.get? b = some o → ((s₁.heap.update a (Obj.mapFields (·.setIfInBounds 3 Value.none))).update a (Obj.mapFields (·.setIfInBounds 4 (Value.bool true)))).get? b = some o := fun b o hb => by
    have ne : a ≠ b := fun q => by rw [← q, hn] at hb; cases hb
    rw [Heap.get?_update_other _ _ ne, Heap.get?_update_other _ _ ne]
    exact kp b o hb
  generalize ((s₁.heap.update a (Obj.mapFields (·.setIfInBounds 3 Value.none))).update a (Obj.mapFields (·.setIfInBounds 4 (Value.bool true)))) = h4' at ha4 kp4
  have hT4 : ({ s₁ with heap := h4' } : Shared).TypeIs (.ref a) X := ⟨_, ha4, hc4⟩
  have hnt4 : ∀ {Q' : Bool → Shared → Prop}, Q' false { s₁ with heap := h4' } → wpAny (model prog w) A (isType (.ref a)) Q' E { s₁ with heap := h4' } := by
    intro Q' hq
    simp only [isType, loadHead]
    refine wpAny_bind (wpAny_loadPart ha4 ?_)
    rw [hd4]; exact wpAny_pure hq
  refine wpAny_bind (hnt4 ?_)
  simp only [Bool.false_eq_true, if_false]
  unfold raisedInstance
  refine wpAny_bind (wpAny_bind (wpAny_typeOf hT4 (wpAny_bind (m := typeOf (.type X)) (wpAny_pure ?_))))
  rw [if_pos hc.metaType]
  refine wpAny_pure ?_
  unfold setFlight
  refine wpAny_bind (wpAny_bind (wpAny_field ha4 hd4 h14 ?_))
  rw [if_neg (by decide)]
  exact wpAny_pure (raiseNew_any (s := { s₁ with heap := h4' }) H kp4 hn ha4 hd4 h14 h24 (hc4 ▸ hE))
end
theorem Tl.addRest {hb h : Heap} {L : Addr} {as : List Addr} {l : FrL} {rest frs news : Led} {e : Addr} {oe : Obj} (TL : Tl hb as l rest frs) (H : HeldE hb L h news e oe) (has : ∀ a ∈ as, ∃ o, (a, o) ∈ news) (hfr : ∀ q ∈ frs, q ∈ news) : Tl hb as l ((e, oe) :: rest) frs := by
  obtain ⟨are, apart, sep⟩ := TL
  refine ⟨are, fun q hq hm => ?_, ?_⟩
  · rcases List.mem_cons.mp hq with rfl | hq
    · obtain ⟨o, ho⟩ := has _ hm
      exact H.off _ ho rfl
    · exact apart q hq hm
  · have : ∀ fr : Led, (∀ q ∈ fr, q ∈ news) → FrSep hb rest fr → FrSep hb ((e, oe) :: rest) fr := by
      intro fr
      induction fr with
      | nil => intro _ _; trivial
      | cons p r ih =>
        intro hs hx
        refine ⟨hx.1, fun q hq => ?_, ih (fun q hq => hs q (List.mem_cons_of_mem _ hq)) hx.2.2⟩
        rcases List.mem_cons.mp hq with rfl | hq
        · exact (H.off p (hs p List.mem_cons_self)).symm
        · exact hx.2.1 q hq
    exact this frs hfr sep
theorem Tl.dropRest {hb : Heap} {as : List Addr} {l : FrL} {rest frs : Led} {p : Addr × Obj} (TL : Tl hb as l (p :: rest) frs) : Tl hb as l rest frs := by
  obtain ⟨are, apart, sep⟩ := TL
  refine ⟨are, fun q hq => apart q (List.mem_cons_of_mem _ hq), ?_⟩
  have : ∀ fr : Led, FrSep hb (p :: rest) fr → FrSep hb rest fr := by
    intro fr
    induction fr with
    | nil => intro _; trivial
    | cons z r ih => intro hx; exact ⟨hx.1, fun q hq => hx.2.1 q (List.mem_cons_of_mem _ hq), ih hx.2.2⟩
  exact this frs sep
theorem HeldE.news {hb h : Heap} {L : Addr} {news : Led} {e : Addr} {oe : Obj} (H : HeldE hb L h news e oe) (N : News hb L h news) : News hb L h ((e, oe) :: news) := fun q hq => by
  rcases List.mem_cons.mp hq with rfl | hq
  · exact ⟨H.there, H.ne, H.new⟩
  · exact N q hq
end
section
theorem nodup_of {prog : Program} {w : World} {o : Obj} {kvs : List (Int × Value)} (h : o.IsDictOf (PySem.intKind prog w) kvs) : (kvs.map (·.1)).Nodup := let ⟨_, _, _, _, _, _, n⟩ := h; n
theorem valueAt_cons {k0 k : Int} {v0 : Value} {r : List (Int × Value)} : valueAt ((k0, v0) :: r) k = if k0 = k then some v0 else valueAt r k := by
  unfold valueAt
  by_cases h : k0 = k <;> simp [h]
theorem valueAt_none {k : Int} : ∀ {kvs : List (Int × Value)}, valueAt kvs k = none ↔ k ∉ kvs.map (·.1)
  | [] => by simp [valueAt]
  | (k0, v0) :: r => by
    rw [valueAt_cons, List.map_cons, List.mem_cons]
    by_cases h : k0 = k
    · simp [h]
    · have h' : ¬ k = k0 := fun e => h e.symm
      simp only [h, if_false, h', false_or]
      exact valueAt_none
theorem valueAt_some {k : Int} {v : Value} {kvs : List (Int × Value)} (h : valueAt kvs k = some v) : k ∈ kvs.map (·.1) := by
  cases Classical.em (k ∈ kvs.map (·.1)) with
  | inl h => exact h
  | inr n => rw [valueAt_none.mpr n] at h; cases h
theorem valueAt_mem {k : Int} {v : Value} : ∀ {kvs : List (Int × Value)}, valueAt kvs k = some v → (k, v) ∈ kvs
  | [], h => by simp [valueAt] at h
  | (k0, v0) :: r, h => by
    rw [valueAt_cons] at h
    by_cases e : k0 = k
    · rw [if_pos e] at h; cases h; rw [e]; exact .head _
    · rw [if_neg e] at h; exact .tail _ (valueAt_mem h)
theorem without_cons {k0 k : Int} {v0 : Value} {r : List (Int × Value)} : without ((k0, v0) :: r) k = if k0 = k then without r k else (k0, v0) :: without r k := by
  unfold without
  by_cases h : k0 = k <;> simp [h]
theorem without_not {k : Int} {kvs : List (Int × Value)} (h : k ∉ kvs.map (·.1)) : without kvs k = kvs := without_of_not_mem kvs k h
theorem without_len {k : Int} {v : Value} : ∀ {kvs : List (Int × Value)}, (kvs.map (·.1)).Nodup → valueAt kvs k = some v → (without kvs k).length + 1 = kvs.length
  | [], _, h => by simp [valueAt] at h
  | (k0, v0) :: r, n, h => by
    rw [List.map_cons, List.nodup_cons] at n
    rw [valueAt_cons] at h
    rw [without_cons]
    by_cases e : k0 = k
    · rw [if_pos e, without_not (by rw [← e]; exact n.1)]; rfl
    · rw [if_neg e] at h ⊢
      simp only [List.length_cons, without_len n.2 h]
theorem without_le {k : Int} (kvs : List (Int × Value)) : (without kvs k).length ≤ kvs.length := List.length_filter_le _ _
theorem stored_new {k : Int} {v : Value} {kvs : List (Int × Value)} (h : valueAt kvs k = none) : stored kvs k v = kvs ++ [(k, v)] := by
  unfold stored
  rw [if_neg]
  simp only [List.any_eq_true, decide_eq_true_eq, not_exists, not_and]
  intro x hx e
  exact valueAt_none.mp h (e ▸ List.mem_map_of_mem hx)
theorem without_gone {k : Int} {kvs : List (Int × Value)} : valueAt (without kvs k) k = none := by
  rw [valueAt_none]
  intro hm
  obtain ⟨x, hx, e⟩ := List.mem_map.mp hm
  unfold without at hx
  have := (List.mem_filter.mp hx).2
  simp at this
  exact this e
theorem stored_len {k : Int} {v v0 : Value} {kvs : List (Int × Value)} (h : valueAt kvs k = some v0) : (stored kvs k v).length = kvs.length := by
  unfold stored
  rw [if_pos, List.length_map]
  obtain ⟨x, hx, e⟩ := List.mem_map.mp (valueAt_some h)
  exact List.any_eq_true.mpr ⟨x, hx, by simpa using e⟩
theorem del_inst {M : Model} {A : Around} {E : Value → Shared → Prop} {s : Shared} {K : Frag} {x C L f : Addr} {h₀ : Heap} {m : Str → Option Value} {ox : Obj} {od : Option Obj} {i : Value} {Q : Unit → Shared → Prop} (F : Fr h₀ L s.heap m) (X₀ : K.In h₀) (I : InstAt s.heap x ox C od) (hq : noSeq K C = true) (hs : findIn K (.ref C) "__delitem__" = some (some (.ref f))) (hf : isFn K (.ref f) = true)
    (h : wpAny M A (call (.ref f) [.ref x, i]) (fun _ s' => Q () s') E s) : wpAny M A (delItem (.ref x) i) Q E s := by
  have X := X₀.keeps F.keep
  unfold delItem sequenceKey
  refine wpAny_holding (wpAny_bind (wpAny_bind (I.type.here ?_)))
  refine wpAny_bind ((anyM_none X hq).here ?_)
  rw [if_pos (show (!false) = true from rfl)]
  exact wpAny_pure (wpAny_bind (special_fn X I hs (beq_iff_eq.mp hf) (wpAny_mono h (fun _ _ z => wpAny_pure z) fun _ _ z => z)))
theorem without_head {k0 : Int} {u0 : Value} {r : List (Int × Value)} (n : (((k0, u0) :: r).map (·.1)).Nodup) : without ((k0, u0) :: r) k0 = r := by
  rw [List.map_cons, List.nodup_cons] at n
  rw [without_cons, if_pos rfl, without_not n.1]
/-- what a look-up makes of the order -/
def touch (ovs : List (Int × Value)) (k : Int) (u : Value) : List (Int × Value) := without ovs k ++ [(k, u)]
theorem touch_eq {ovs : List (Int × Value)} {k : Int} {u : Value} : stored (without ovs k) k u = touch ovs k u := stored_new without_gone
theorem valueAt_append {a b : List (Int × Value)} {k : Int} : valueAt (a ++ b) k = (valueAt a k).or (valueAt b k) := by
  induction a with
  | nil => rfl
  | cons p r ih =>
    obtain ⟨k0, v0⟩ := p
    rw [List.cons_append, valueAt_cons, valueAt_cons]
    by_cases h : k0 = k
    · simp [h]
    · simp [h, ih]
theorem touch_at {ovs : List (Int × Value)} {k : Int} {u : Value} : valueAt (touch ovs k u) k = some u := by
  unfold touch
  rw [valueAt_append, without_gone, valueAt_cons, if_pos rfl]; rfl
theorem touch_without {ovs : List (Int × Value)} {k : Int} {u : Value} : without (touch ovs k u) k = without ovs k := by
  unfold touch
  have h1 : without (without ovs k) k = without ovs k := without_not (valueAt_none.mp without_gone)
  have h2 : without (without ovs k ++ [(k, u)]) k = without (without ovs k) k ++ without [(k, u)] k := List.filter_append ..
  rw [h2, h1, without_cons, if_pos rfl]
  exact List.append_nil _
theorem touch_len {ovs : List (Int × Value)} {k : Int} {u u' : Value} (n : (ovs.map (·.1)).Nodup) (h : valueAt ovs k = some u') : (touch ovs k u).length = ovs.length := by
  have := without_len n h
  unfold touch
  rw [List.length_append]
  exact this
/-- what laying in a lost key makes of pairs and order -/
def setK (mx : Int) (kvs ovs : List (Int × Value)) (k : Int) (v : Value) : List (Int × Value) :=
  if (kvs.length : Int) < mx then kvs ++ [(k, v)] else match ovs with
    | [] => kvs ++ [(k, v)]
    | p :: _ => without kvs p.1 ++ [(k, v)]
def setO (mx : Int) (kvs ovs : List (Int × Value)) (k : Int) : List (Int × Value) := if (kvs.length : Int) < mx then ovs ++ [(k, .none)] else ovs.tail ++ [(k, .none)]
/-- pairs and order hold the same keys; the size is kept -/
structure Coh (mx : Int) (kvs ovs : List (Int × Value)) : Prop where
  co : ∀ k, (valueAt kvs k).isSome = (valueAt ovs k).isSome
  ln : ovs.length = kvs.length
  le : (kvs.length : Int) ≤ mx
  m1 : 1 ≤ mx
  m4 : mx ≤ 4
theorem Coh.lost {mx : Int} {kvs ovs : List (Int × Value)} {k : Int} (c : Coh mx kvs ovs) (h : valueAt kvs k = none) : valueAt ovs k = none := by
  have := c.co k
  rw [h] at this
  cases q : valueAt ovs k with
  | none => rfl
  | some v => rw [q] at this; cases this
theorem Coh.there {mx : Int} {kvs ovs : List (Int × Value)} {k : Int} {v : Value} (c : Coh mx kvs ovs) (h : valueAt kvs k = some v) : ∃ u, valueAt ovs k = some u := by
  have := c.co k
  rw [h] at this
  cases q : valueAt ovs k with
  | none => rw [q] at this; cases this
  | some v => exact ⟨v, rfl⟩
theorem Coh.back {mx : Int} {kvs ovs : List (Int × Value)} {k : Int} {v : Value} (c : Coh mx kvs ovs) (h : valueAt ovs k = some v) : ∃ u, valueAt kvs k = some u := by
  have := c.co k
  rw [h] at this
  cases q : valueAt kvs k with
  | none => rw [q] at this; cases this
  | some v => exact ⟨v, rfl⟩
/-- the entries of a cache's own dict -/
abbrev own (h1 h2 h3 h4 : Int) (t1 t2 t3 t4 : Tok) (D O : Addr) (cs mx : Int) (tc tm : Tok) : List DictEntry :=
  [⟨h1, .str (Str.ofString "_Cache__data") t1, .ref D⟩, ⟨h2, .str (Str.ofString "_Cache__currsize") t2, .int cs tc⟩, ⟨h3, .str (Str.ofString "_Cache__maxsize") t3, .int mx tm⟩, ⟨h4, .str (Str.ofString "_LRUCache__order") t4, .ref O⟩]
/-- a cache as the ledger bears it: its pairs kvs, its order ovs -/
def Cache (prog : Program) (w : World) (hb : Heap) (L : Addr) (h : Heap) (x dx D O : Addr) (mx : Int) (kvs ovs : List (Int × Value)) (tl : Led) : Prop :=
  ∃ h1 h2 h3 h4 t1 t2 t3 t4 tc tm oD oO, News hb L h ((x, instObj 897 dx) :: (dx, dictOf (own h1 h2 h3 h4 t1 t2 t3 t4 D O (kvs.length : Int) mx tc tm) 4) :: (D, oD) :: (O, oO) :: tl) ∧ oD.IsDictOf (PySem.intKind prog w) kvs ∧ oO.IsDictOf (PySem.intKind prog w) ovs
structure Apt (x dx D O : Addr) : Prop where
  g1 : dx < x
  g2 : x < D
  g3 : D < O
  loD : (D == sysModules) = false
  loO : (O == sysModules) = false
structure Cx (n : Nat) (w : World) (A : Around) (hb : Heap) (L : Addr) (env : Env) (l : FrL) (p : Program) (loose : List Str) (mean : ExcName → Option Value) (mg mb : Str → Option Value) : Prop where
  X : (top.heap_1 w.params).In hb
  T : Top p loose mean mg mb hb
  hA : A.frames = some (env :: l.map (·.1))
  hf : env.frame = some L
  hke : env.scope.kind = .function
  hdep : A.depth + n < recursionLimit

theorem mem4_1 {a b c d : Addr} : a ∈ [a, b, c, d] := .head _
theorem mem4_2 {a b c d : Addr} : b ∈ [a, b, c, d] := .tail _ (.head _)
theorem mem4_3 {a b c d : Addr} : c ∈ [a, b, c, d] := .tail _ (.tail _ (.head _))
theorem mem4_4 {a b c d : Addr} : d ∈ [a, b, c, d] := .tail _ (.tail _ (.tail _ (.head _)))
theorem four {x dx D O : Addr} {ox odx oD oO : Obj} {news : Led} (h1 : (x, ox) ∈ news) (h2 : (dx, odx) ∈ news) (h3 : (D, oD) ∈ news) (h4 : (O, oO) ∈ news) : ∀ a ∈ [x, dx, D, O], ∃ o, (a, o) ∈ news := by
  intro a ha
  simp only [List.mem_cons, List.not_mem_nil, or_false] at ha
  rcases ha with rfl | rfl | rfl | rfl
  · exact ⟨_, h1⟩
  · exact ⟨_, h2⟩
  · exact ⟨_, h3⟩
  · exact ⟨_, h4⟩
theorem kept4 {hb : Heap} {x dx D O : Addr} {ox odx oD oO : Obj} {news rest frs : Led} {l : FrL} (TL : Tl hb [x, dx, D, O] l rest frs) (h1 : (x, ox) ∈ news) (h2 : (dx, odx) ∈ news) (h3 : (D, oD) ∈ news) (h4 : (O, oO) ∈ news) :
    ∀ q ∈ [(x, ox), (dx, odx), (D, oD), (O, oO)], q ∈ news ∧ ∀ z ∈ frs, z.1 ≠ q.1 := by
  intro q hq
  simp only [List.mem_cons, List.not_mem_nil, or_false] at hq
  rcases hq with rfl | rfl | rfl | rfl
  · exact ⟨h1, TL.ne mem4_1⟩
  · exact ⟨h2, TL.ne mem4_2⟩
  · exact ⟨h3, TL.ne mem4_3⟩
  · exact ⟨h4, TL.ne mem4_4⟩
theorem kept5 {hb : Heap} {x dx D O t : Addr} {ox odx oD oO ot : Obj} {news rest frs : Led} {l : FrL} (TL : Tl hb [x, dx, D, O] l rest frs) (ht : AllLt t (rest ++ frs)) (h0 : (t, ot) ∈ news) (h1 : (x, ox) ∈ news) (h2 : (dx, odx) ∈ news) (h3 : (D, oD) ∈ news) (h4 : (O, oO) ∈ news) :
    ∀ q ∈ [(t, ot), (x, ox), (dx, odx), (D, oD), (O, oO)], q ∈ news ∧ ∀ z ∈ frs, z.1 ≠ q.1 := by
  intro q hq
  rcases List.mem_cons.mp hq with rfl | hq
  · exact ⟨h0, lt_ne ht⟩
  · exact kept4 TL h1 h2 h3 h4 q hq
theorem kept4a {x dx D O : Addr} {ox odx oD oO : Obj} {news : Led} (h1 : (x, ox) ∈ news) (h2 : (dx, odx) ∈ news) (h3 : (D, oD) ∈ news) (h4 : (O, oO) ∈ news) :
    ∀ q ∈ [(x, ox), (dx, odx), (D, oD), (O, oO)], q ∈ news ∧ ∀ a ∈ [q.1], a ∈ [x, dx, D, O] := by
  intro q hq
  simp only [List.mem_cons, List.not_mem_nil, or_false] at hq
  rcases hq with rfl | rfl | rfl | rfl
  · exact ⟨h1, fun a ha => by rw [List.mem_singleton.mp ha]; exact mem4_1⟩
  · exact ⟨h2, fun a ha => by rw [List.mem_singleton.mp ha]; exact mem4_2⟩
  · exact ⟨h3, fun a ha => by rw [List.mem_singleton.mp ha]; exact mem4_3⟩
  · exact ⟨h4, fun a ha => by rw [List.mem_singleton.mp ha]; exact mem4_4⟩
theorem isSome_of {α : Type} {o : Option α} {v : α} (h : o = some v) : o.isSome = true := by rw [h]; rfl
theorem getItem_missing {prog : Program} {w : World} {A : Around} {E : Value → Shared → Prop} {s : Shared} {h₀ : Heap} {L d : Addr} {news : Led} {o : Obj} {kvs : List (Int × Value)} {k : Int} {t : Tok} {Q : Value → Shared → Prop} (hh : A.handled = none) (N : News h₀ L s.heap news) (hp : (d, o) ∈ news)
    (hd : o.IsDictOf (PySem.intKind prog w) kvs) (lo : (d == sysModules) = false) (hl : valueAt kvs k = none)
    (h : ∀ h' e, NewX s.heap h' e (.type "KeyError") .none → E (.ref e) { s with heap := h', toks := s.toks + 1 }) :
    wpAny (model prog w) A (getItem (.ref d) (.int k t)) Q E s :=
  wpAny_getItem_missing_of (intKind_is _ _ _ _) lo hh (kda_dict N hp hd).mapOf hl fun h' e x => h h' e (.of x)
theorem tail_missing {prog : Program} {w : World} {A : Around} {E : Value → Shared → Prop} {s : Shared} {h₀ : Heap} {L d : Addr} {news : Led} {o : Obj} {kvs : List (Int × Value)} {k : Int} {t : Tok} {Q : Value → Shared → Prop} {value slice : PySem.Expr} (hh : A.handled = none) (N : News h₀ L s.heap news) (hp : (d, o) ∈ news)
    (hd : o.IsDictOf (PySem.intKind prog w) kvs) (lo : (d == sysModules) = false) (hl : valueAt kvs k = none)
    (h : ∀ h' e, NewX s.heap h' e (.type "KeyError") .none → E (.ref e) { s with heap := h', toks := s.toks + 1 })
    (hs : subscripted slice false (.ref d) (.int k t) = operate [.ref d, .int k t] (getItem (.ref d) (.int k t)) := by with_unfolding_all rfl) :
    wpAny (model prog w) A (subscriptTail value slice (.ref d) (.int k t)) Q E s :=
  kdt_tail N hp hd (getItem_missing hh N hp hd lo hl h) hs
theorem mv5 {hb h : Heap} {L : Addr} {t a b c d : Addr × Obj} {tl : Led} (N : News hb L h (t :: a :: b :: c :: d :: tl)) : News hb L h (a :: b :: c :: d :: t :: tl) := fun q hq => N q (by
  simp only [List.mem_cons] at hq ⊢
  rcases hq with h | h | h | h | h | h <;> simp [h])
theorem clear_ok {prog : Program} {w : World} {A : Around} {E : Value → Shared → Prop} {s : Shared} {h₀ : Heap} {L d : Addr} {m : Str → Option Value} {news : Led} {g : Obj → Led} {o : Obj} {kvs : List (Int × Value)} {Q : Value → Shared → Prop} (F : Fr h₀ L s.heap m) (N : News h₀ L s.heap news) (U : UpdF d o news g) (hd : o.IsDictOf (PySem.intKind prog w) kvs) (hsz : kvs.length ≤ sizeLine)
    (h : ∀ h' o', Fr h₀ L h' m → News h₀ L h' (g o') → o'.IsDictOf (PySem.intKind prog w) [] → Q .none { s with heap := h' }) : wpAny (model prog w) A (call (.builtin "dict.clear") [.ref d]) Q E s := by
  obtain ⟨pre, post, rfl, hg, a, b⟩ := U.split
  exact call_clear_madeIn (enc := PyData.int) (hsz := hsz) F N a b hd fun h' o' F' N' x _ => h h' o' F' (hg o' ▸ N') x
theorem del_missing {prog : Program} {w : World} {A : Around} {E : Value → Shared → Prop} {s : Shared} {h₀ : Heap} {L d : Addr} {news : Led} {o : Obj} {kvs : List (Int × Value)} {k : Int} {t : Tok} {Q : Unit → Shared → Prop} (hh : A.handled = none) (N : News h₀ L s.heap news) (hp : (d, o) ∈ news)
    (hd : o.IsDictOf (PySem.intKind prog w) kvs) (lo : (d == sysModules) = false) (hl : valueAt kvs k = none)
    (h : ∀ h' e, NewX s.heap h' e (.type "KeyError") .none → E (.ref e) { s with heap := h', toks := s.toks + 1 }) :
    wpAny (model prog w) A (delItem (.ref d) (.int k t)) Q E s := by
  have hD := kda_dict N hp hd
  unfold delItem
  try with_reducible refine wpAny_holding ?_
  refine wpAny_bind (wpAny_sequenceKey hD.typeIs (by decide) ?_)
  exact wpAny_bind (wpAny_callSpecial?_slot (name := Str.ofString "__delitem__") hD.typeIs PySem.F.slot_dict_delitem
    (call_meetsIn PySem.F.slot_dict_delitem hD.typeIs PySem.F.entry_dict_delitem (PySem.F.args_dict_delitem_2 _ _) (meets_dict_delitem_missing (PySem.intKind prog w) d (intKind_is _ _ _ _) lo) ⟨hh, kvs, hD, hl, fun h' e x => h h' e (.of x)⟩))
theorem is_str_ref {M : Model} {A : Around} {E : Value → Shared → Prop} {s : Shared} {x : Str} {t : Tok} {a : Addr} {Q : Value → Shared → Prop} (h : Q (.bool false) s) : wpAny M A (compareOp .Is (.str x t) (.ref a)) Q E s := by
  have e : (Value.str x t == Value.ref a) = false := rfl
  exact wpAny_pure (a := Value.bool (Value.str x t == Value.ref a)) (by rw [e]; exact h)
end
section
local macro_rules | `(tactic| k_lt $h:ident) => `(tactic| (have k_tl := allLt_of $h; (simp only [AllLt, and_true] at k_tl); (repeat (replace k_tl := And.right k_tl)); replace $h := allLt_of $h; simp only [AllLt, and_true] at $h:ident))
local macro_rules | `(tactic| k_all) => `(tactic| first | exact Tl.apart (by assumption) |>.ne mem4_1 | exact Tl.apart (by assumption) |>.ne mem4_2 | exact Tl.apart (by assumption) |>.ne mem4_3 | exact Tl.apart (by assumption) |>.ne mem4_4 | exact allLt_ne (by assumption))
local macro_rules | `(tactic| k_room) => `(tactic| ((try simp only [depth_mark, depth_under_make, depth_under_kw, depth_in1, depth_deeper, depth_caller]); omega))
local macro_rules | `(tactic| walk_at "call ref") => `(tactic| (k_here; k_dflt (refine wpAny_call ?_; refine' enter ?k1 ?k2 ?k3 ?k4 ?k5 ?k6 ?k7 ?kA ?kF ?kK ?k8 ?k9 ?kR ?kB ?kL ?_ ?c2 ?c3 ?c4 ?c5; (case k1 => k_asm); (case k2 => k_asm); (case k3 => k_asm); (case k4 => k_asm); (case k5 => k_asm); (case k6 => repeat (first | exact TailAt.here | apply TailAt.cons)); (case k7 => exact four (by k_mem) (by k_mem) (by k_mem) (by k_mem)); (case kA => first | assumption | exact Around.frames_deeper (by assumption) | exact Around.frames_deeper (Around.frames_deeper (by assumption)) | exact Around.frames_deeper (Around.frames_deeper (Around.frames_deeper (by assumption)))); (case kF => first | assumption | rfl); (case kK => first | assumption | rfl); (case k8 => k_is); (case k9 => k_is); (case kR => k_room); (case kB => first | exact BindsTo.of_eq rfl | exact binds_K (by k_in) rfl (by k_is) rfl rfl rfl | fail "enter: no rule for these arguments"); (case kL => exact locs rfl); (case c5 => decide); (case c2 => exact rfl); (case c3 => exact rfl); (case c4 => exact rfl); k_whole; intro frs' L' h' TL' F' N'; (try dsimp only at N' ⊢); (try k_fold))))
local macro_rules | `(tactic| walk_at "LeaveM") => `(tactic| (k_dflt (first
  | (refine' leaveM1 ?k1 ?k2 ?k3 ?k4 ?k5 ?k6 ?k7 ?k8 ?_; (case k1 => assumption); (case k5 => assumption); (case k2 => first | assumption | rfl); (case k3 => assumption); (case k4 => assumption); (case k6 => k_mem); (case k7 => exact kept4 (by assumption) (by k_mem) (by k_mem) (by k_mem) (by k_mem)); (case k8 => (intro q hq; repeat (first | exact hq | refine List.mem_cons_of_mem _ ?_))); k_whole; intro frs' TL' F' N' lt')
  | (refine' leaveM ?k1 ?k2 ?k3 ?k4 ?k5 ?k6 ?_; (case k1 => assumption); (case k2 => first | assumption | rfl); (case k3 => assumption); (case k4 => assumption); (case k5 => exact kept4 (by assumption) (by k_mem) (by k_mem) (by k_mem) (by k_mem)); (case k6 => (intro q hq; repeat (first | exact hq | refine List.mem_cons_of_mem _ ?_))); k_whole; intro frs' TL' F' N')); (try simp only [List.cons_append, List.nil_append] at N'); (try dsimp only)))
local macro_rules | `(tactic| walk_at "compareOp In int ref") => `(tactic| (k_here; k_dflt (refine kda_in (knd := PySem.intKind _ _) (by k_asm) (by k_mem) (by k_asm) (by k_asm) (intKind_is _ _ _ _) _ (by first | assumption | exact isSome_of (by assumption) | exact Option.isSome_eq_false_iff.mpr (Option.isNone_iff_eq_none.mpr (by assumption)) | rfl) ?_)))
local macro_rules | `(tactic| walk_at "getMethod ref") => `(tactic| (k_here; (with_reducible show wpAny _ _ (getMethod (Value.ref _) (Str.ofString "pop") _) _ _ _); k_dflt (refine kob_method (knd := PySem.intKind _ _) PySem.F.slot_dict_pop PySem.F.type_dict_pop (by k_asm) (by k_mem) (by k_asm) ?_)))
local macro_rules | `(tactic| walk_at "getMethod ref") => `(tactic| (k_here; (with_reducible show wpAny _ _ (getMethod (Value.ref _) (Str.ofString "clear") _) _ _ _); k_dflt (refine kob_method (knd := PySem.intKind _ _) PySem.F.slot_dict_clear PySem.F.type_dict_clear (by k_asm) (by k_mem) (by k_asm) ?_)))
local macro_rules | `(tactic| walk_at "call builtin:dict.pop") => `(tactic| (k_here; k_dflt (first
  | (refine' kob_pop (knd := PySem.intKind _ _) (more := []) ?k1 ?k2 ?k3 ?k4 (intKind_is _ _ _ _) (.inl rfl) (by rfl) (PySem.F.args_dict_pop_2 _ _) ?k5 ?k6 ?_; (case k1 => k_asm); (case k2 => k_asm); (case k3 => k_updF); (case k4 => k_asm); (case k5 => assumption); (case k6 => rw [sizeLine_eq]; omega); intro h' o' F' N' hd'; (try dsimp only at N'))
  | (refine' pop_missing ?k0 ?k1 ?k2 ?k3 ?k4 ?k5 ?_; (case k1 => k_asm); (case k2 => k_mem); (case k3 => k_asm); (case k4 => k_asm); (case k5 => assumption); (case k0 => exact HdL.hd (by assumption) (fun q hq => (by assumption : News _ _ _ _) q (by (repeat (first | exact List.mem_append_left _ hq | refine List.mem_cons_of_mem _ ?_))) |>.1)); k_whole; intro h' e' x'))))
local macro_rules | `(tactic| walk_at "setItem ref int") => `(tactic| (k_here; k_dflt (refine' kda_set (knd := PySem.intKind _ _) ?k1 ?k2 ?k3 ?k4 (intKind_is _ _ _ _) ?k5 ?_; (case k1 => k_asm); (case k2 => k_asm); (case k3 => k_updF); (case k4 => k_asm); (case k5 => rw [sizeLine_eq]; (try simp only [List.length_append, List.length_cons, List.length_nil]); omega); intro h' o' F' N' hd'; (try dsimp only at N'))))
local macro_rules | `(tactic| walk_at "delItem ref int") => `(tactic| (k_here; k_dflt (refine' kob_del (knd := PySem.intKind _ _) ?k1 ?k2 ?k3 ?k4 (intKind_is _ _ _ _) ?k5 ?k6 ?_; (case k1 => k_asm); (case k2 => k_asm); (case k3 => k_updF); (case k4 => k_asm); (case k5 => first | assumption | exact isSome_of (by assumption)); (case k6 => rw [sizeLine_eq]; omega); intro h' o' F' N' hd'; (try dsimp only at N'))))
local macro_rules | `(tactic| walk_at "subscriptTail") => `(tactic| (k_here; (with_reducible show wpAny _ _ (subscriptTail _ _ (Value.ref _) (Value.int _ _)) _ _ _); k_dflt (first
  | (refine' kdt_tail (knd := PySem.intKind _ _) ?k1 ?k2 ?k3 (kdt_getItem (knd := PySem.intKind _ _) ?k1 ?k2 ?k3 (intKind_is _ _ _ _) ?k4 ?_); (case k1 => k_asm); (case k2 => k_mem); (case k3 => k_asm); (case k4 => assumption); k_whole)
  | (refine' tail_missing ?k0 ?k1 ?k2 ?k3 ?k4 ?k5 ?_; (case k0 => first | rfl | assumption); (case k1 => k_asm); (case k2 => k_mem); (case k3 => k_asm); (case k4 => k_asm); (case k5 => assumption); k_whole; intro h' e' x'))))
local macro_rules | `(tactic| walk_at "noteFrame ref") => `(tactic| (k_here; k_dflt (first
  | (refine' note_new ?k1 ?k2 ?k3 ?k4 ?k5 ?k6 ?k7 ?k8 ?_; (case k1 => assumption))
  | (refine' note_fly ?k1 ?k2 ?k3 ?k4 ?k5 ?k6 ?k7 ?k8 ?_; (case k1 => assumption))); (case k2 => assumption); (case k3 => assumption); (case k4 => assumption); (case k5 => first | assumption | exact Around.frames_deeper (by assumption) | exact Around.frames_deeper (Around.frames_deeper (by assumption)) | exact Around.frames_deeper (Around.frames_deeper (Around.frames_deeper (by assumption)))); (case k6 => exact kept4 (by assumption) (by k_mem) (by k_mem) (by k_mem) (by k_mem)); (case k7 => (intro q hq; repeat (first | exact hq | refine List.mem_cons_of_mem _ ?_))); (case k8 => rfl); k_whole; intro h' frs' TL' F' N' X'; (try simp only [List.cons_append, List.nil_append] at N' X')))
local macro_rules | `(tactic| walk_at "setFlight ref") => `(tactic| (k_here; k_dflt (refine' land_fly ?k1 ?k2 ?k3 ?_; (case k1 => assumption); (case k2 => assumption); (case k3 => assumption); k_whole; intro h' F' N' X')))
local macro_rules | `(tactic| walk_at "handleBy ref") => `(tactic| (k_here; k_dflt (first
  | (refine' handle_hit (T' := "KeyError") ?k1 ?k2 ?k3 ?k4 ?k5 ?k6 PyProof.Rows.Boot.«KeyError» ?k7 kr_isExc_KeyError kr_notTuple_KeyError ?k8 ?_ ?c1 ?c2 ?c3 ?c4; (case k1 => assumption); (case k2 => assumption); (case k3 => assumption); (case k4 => assumption); (case k5 => assumption); (case k6 => k_is); (case k7 => decide); (case k8 => rw [isSubtype_type]; kernel_rfl); (case c1 => rfl); (case c2 => rfl); (case c3 => decide); (case c4 => passes_own); k_whole)); intro h' oe' vs' F' N' hE' hv1' hv2'))
local macro_rules | `(tactic| walk_at "leaving ref") => `(tactic| (k_here; k_dflt (first
  | (refine' leave_new ?k1 ?k2 ?k3 ?k4 ?k9 ?k5 ?k6 ?k7 ?k8 ?_; (case k1 => assumption))
  | (refine' leave_fly ?k1 ?k2 ?k3 ?k4 ?k9 ?k5 ?k6 ?k7 ?k8 ?_; (case k1 => assumption))); (case k2 => assumption); (case k3 => assumption); (case k4 => assumption); (case k9 => first | assumption | rfl); (case k5 => first | assumption | exact Around.frames_deeper (by assumption) | exact Around.frames_deeper (Around.frames_deeper (by assumption)) | exact Around.frames_deeper (Around.frames_deeper (Around.frames_deeper (by assumption)))); (case k6 => exact kept4a (by k_mem) (by k_mem) (by k_mem) (by k_mem)); (case k7 => (intro q hq; repeat (first | exact hq | refine List.mem_cons_of_mem _ ?_))); (case k8 => rfl); k_whole; intro h' frs' TL' F' N' X'; (try simp only [List.cons_append, List.nil_append] at N' X'); (try dsimp only)))
local macro_rules | `(tactic| walk_at "delItem ref") => `(tactic| (k_here; (with_reducible show wpAny _ _ (delItem (Value.ref _) _) _ _ _); k_dflt (refine' del_inst ?k1 ?k2 ?k3 ?k4 ?k5 ?k6 ?_; (case k1 => k_asm); (case k2 => k_asm); (case k3 => k_inst); (case k4 => k_is); (case k5 => k_is); (case k6 => k_is); k_whole)))
local macro_rules | `(tactic| walk_at "WhlIf") => `(tactic| first | (refine WhlIf.yes (decide_eq_true (by omega)) ?_) | (refine WhlIf.no (decide_eq_false (by omega)) ?_))
local macro_rules | `(tactic| walk_at "delItem ref int") => `(tactic| (k_here; k_dflt (refine' del_missing ?k0 ?k1 ?k2 ?k3 ?k4 ?k5 ?_; (case k0 => first | rfl | assumption); (case k1 => k_asm); (case k2 => k_mem); (case k3 => k_asm); (case k4 => k_asm); (case k5 => assumption); k_whole; intro h' e' x')))
local macro_rules | `(tactic| walk_at "compareOp Is str ref") => `(tactic| refine is_str_ref ?_)
section
variable {prog : Program} {w : World} {A : Around} {E : Value → Shared → Prop} {s : Shared} {L x dx D O : Addr} {hb : Heap} {m mg mb : Str → Option Value} {rest frs : Led} {p : Program} {loose : List Str} {mean : ExcName → Option Value} {l : FrL} {env : Env}
  {mx : Int} {kvs ovs : List (Int × Value)} {k : Int} {t : Tok} {Q : Value → Shared → Prop}
theorem contains_ok (C : Cx 5 w A hb L env l p loose mean mg mb) (P : Apt x dx D O) (F : Fr hb L s.heap m) (TL : Tl hb [x, dx, D, O] l rest frs) (S : Cache prog w hb L s.heap x dx D O mx kvs ovs (rest ++ frs))
    (hQ : ∀ h' tk' frs', Tl hb [x, dx, D, O] l rest frs' → Fr hb L h' m → Cache prog w hb L h' x dx D O mx kvs ovs (rest ++ frs') → Q (.bool (valueAt kvs k).isSome) { s with heap := h', toks := tk' }) :
    wpAny (model prog w) A (call (.ref 749) [.ref x, .int k t]) Q E s := by
  obtain ⟨X, T, hA, hf, hke, hdep⟩ := C
  obtain ⟨h1, h2, h3, h4, t1, t2, t3, t4, tc, tm, oD, oO, N, hD, hO⟩ := S
  obtain ⟨g1, g2, g3, loD, loO⟩ := P
  replace g1 := ltN g1
  replace g2 := ltN g2
  replace g3 := ltN g3
  k_steps
  exact hQ _ _ _ (by assumption) (by assumption) ⟨_, _, _, _, _, _, _, _, _, _, _, _, by assumption, hD, hO⟩
end
section
variable {prog : Program} {w : World} {A : Around} {E : Value → Shared → Prop} {s : Shared} {L x dx D O : Addr} {hb : Heap} {m mg mb : Str → Option Value} {rest frs : Led} {p : Program} {loose : List Str} {mean : ExcName → Option Value} {l : FrL} {env : Env}
  {mx : Int} {kvs ovs : List (Int × Value)} {k : Int} {t : Tok} {Q : Value → Shared → Prop}
theorem getitem_ok {v u : Value} (C : Cx 5 w A hb L env l p loose mean mg mb) (P : Apt x dx D O) (F : Fr hb L s.heap m) (TL : Tl hb [x, dx, D, O] l rest frs) (S : Cache prog w hb L s.heap x dx D O mx kvs ovs (rest ++ frs))
    (hk : valueAt kvs k = some v) (ho : valueAt ovs k = some u) (_z1 : kvs.length ≤ 8) (z2 : ovs.length ≤ 8) 
    (hQ : ∀ h' tk' frs', Tl hb [x, dx, D, O] l rest frs' → Fr hb L h' m → Cache prog w hb L h' x dx D O mx kvs (touch ovs k u) (rest ++ frs') → Q v { s with heap := h', toks := tk' }) :
    wpAny (model prog w) A (call (.ref 857) [.ref x, .int k t]) Q E s := by
  obtain ⟨X, T, hA, hf, hke, hdep⟩ := C
  obtain ⟨h1, h2, h3, h4, t1, t2, t3, t4, tc, tm, oD, oO, N, hD, hO⟩ := S
  obtain ⟨g1, g2, g3, loD, loO⟩ := P
  replace g1 := ltN g1
  replace g2 := ltN g2
  replace g3 := ltN g3
  have z3 : (without ovs k).length ≤ 8 := Nat.le_trans (without_le ovs) z2
  k_steps
  exact hQ _ _ _ (by assumption) (by assumption) ⟨_, _, _, _, _, _, _, _, _, _, _, _, by assumption, by assumption, by rw [← touch_eq]; assumption⟩
end
section
variable {prog : Program} {w : World} {A : Around} {E : Value → Shared → Prop} {s : Shared} {L x dx D O : Addr} {hb : Heap} {m mg mb : Str → Option Value} {rest frs : Led} {p : Program} {loose : List Str} {mean : ExcName → Option Value} {l : FrL} {env : Env}
  {mx : Int} {kvs ovs : List (Int × Value)} {k : Int} {t : Tok} {Q : Value → Shared → Prop}
theorem delitem_ok {v u : Value} (C : Cx 5 w A hb L env l p loose mean mg mb) (P : Apt x dx D O) (F : Fr hb L s.heap m) (TL : Tl hb [x, dx, D, O] l rest frs) (S : Cache prog w hb L s.heap x dx D O mx kvs ovs (rest ++ frs))
    (hk : valueAt kvs k = some v) (ho : valueAt ovs k = some u) (_z1 : kvs.length ≤ 8) (z2 : ovs.length ≤ 8)
    (hQ : ∀ h' tk' frs', Tl hb [x, dx, D, O] l rest frs' → Fr hb L h' m → Cache prog w hb L h' x dx D O mx (without kvs k) (without ovs k) (rest ++ frs') → Q .none { s with heap := h', toks := tk' }) :
    wpAny (model prog w) A (call (.ref 873) [.ref x, .int k t]) Q E s := by
  obtain ⟨X, T, hA, hf, hke, hdep⟩ := C
  obtain ⟨h1, h2, h3, h4, t1, t2, t3, t4, tc, tm, oD, oO, N, hD, hO⟩ := S
  obtain ⟨g1, g2, g3, loD, loO⟩ := P
  replace g1 := ltN g1
  replace g2 := ltN g2
  replace g3 := ltN g3
  have zl := without_len (nodup_of hD) hk
  have zi : ((without kvs k).length : Int) = (kvs.length : Int) - 1 := by omega
  k_steps
  exact hQ _ _ _ (by assumption) (by assumption) ⟨_, _, _, _, _, _, _, _, _, _, _, _, by rw [zi]; assumption, by assumption, by assumption⟩
end
section
variable {prog : Program} {w : World} {A : Around} {E : Value → Shared → Prop} {s : Shared} {L x dx D O : Addr} {hb : Heap} {m mg mb : Str → Option Value} {rest frs : Led} {p : Program} {loose : List Str} {mean : ExcName → Option Value} {l : FrL} {env : Env}
  {mx : Int} {kvs ovs : List (Int × Value)} {k : Int} {t : Tok} {Q : Value → Shared → Prop}
theorem sethit_ok {v0 v u : Value} (C : Cx 8 w A hb L env l p loose mean mg mb) (P : Apt x dx D O) (F : Fr hb L s.heap m) (TL : Tl hb [x, dx, D, O] l rest frs) (S : Cache prog w hb L s.heap x dx D O mx kvs ovs (rest ++ frs))
    (hmx : 1 ≤ mx) (hk : valueAt kvs k = some v0) (ho : valueAt ovs k = some u) (z1 : kvs.length ≤ 8) (z2 : ovs.length ≤ 8)
    (hQ : ∀ h' tk' frs', Tl hb [x, dx, D, O] l rest frs' → Fr hb L h' m → Cache prog w hb L h' x dx D O mx (stored kvs k v) (touch ovs k u) (rest ++ frs') → Q .none { s with heap := h', toks := tk' }) :
    wpAny (model prog w) A (call (.ref 865) [.ref x, .int k t, v]) Q E s := by
  obtain ⟨X, T, hA, hf, hke, hdep⟩ := C
  obtain ⟨h1, h2, h3, h4, t1, t2, t3, t4, tc, tm, oD, oO, N, hD, hO⟩ := S
  obtain ⟨g1, g2, g3, loD, loO⟩ := P
  replace g1 := ltN g1
  replace g2 := ltN g2
  replace g3 := ltN g3
  have z3 : (without ovs k).length ≤ 8 := Nat.le_trans (without_le ovs) z2
  have zi : ((stored kvs k v).length : Int) = kvs.length := by rw [stored_len hk]
  k_steps
  exact hQ _ _ _ (by assumption) (by assumption) ⟨_, _, _, _, _, _, _, _, _, _, _, _, by rw [zi]; assumption, by assumption, by rw [← touch_eq]; assumption⟩
end
section
variable {prog : Program} {w : World} {A : Around} {E : Value → Shared → Prop} {s : Shared} {L x dx D O : Addr} {hb : Heap} {m mg mb : Str → Option Value} {rest frs : Led} {p : Program} {loose : List Str} {mean : ExcName → Option Value} {l : FrL} {env : Env}
  {mx : Int} {kvs ovs : List (Int × Value)} {k : Int} {t : Tok} {Q : Value → Shared → Prop}
theorem setroom_ok {v : Value} (C : Cx 8 w A hb L env l p loose mean mg mb) (P : Apt x dx D O) (F : Fr hb L s.heap m) (TL : Tl hb [x, dx, D, O] l rest frs) (S : Cache prog w hb L s.heap x dx D O mx kvs ovs (rest ++ frs)) (H : HdL A.handled rest)
    (hmx : 1 ≤ mx) (hroom : (kvs.length : Int) < mx) (hk : valueAt kvs k = none) (ho : valueAt ovs k = none) (z1 : kvs.length ≤ 8) (z2 : ovs.length ≤ 8)
    (hQ : ∀ h' tk' frs', Tl hb [x, dx, D, O] l rest frs' → Fr hb L h' m → Cache prog w hb L h' x dx D O mx (kvs ++ [(k, v)]) (ovs ++ [(k, .none)]) (rest ++ frs') → Q .none { s with heap := h', toks := tk' }) :
    wpAny (model prog w) A (call (.ref 865) [.ref x, .int k t, v]) Q E s := by
  obtain ⟨X, T, hA, hf, hke, hdep⟩ := C
  obtain ⟨h1, h2, h3, h4, t1, t2, t3, t4, tc, tm, oD, oO, N, hD, hO⟩ := S
  obtain ⟨g1, g2, g3, loD, loO⟩ := P
  replace g1 := ltN g1
  replace g2 := ltN g2
  replace g3 := ltN g3
  have zi : ((kvs ++ [(k, v)]).length : Int) = kvs.length + 1 := by rw [List.length_append]; rfl
  have e1 : stored kvs k v = kvs ++ [(k, v)] := stored_new hk
  have e2 : stored ovs k .none = ovs ++ [(k, .none)] := stored_new ho
  k_steps
  exact hQ _ _ _ (by assumption) (by assumption) ⟨_, _, _, _, _, _, _, _, _, _, _, _, by rw [zi]; assumption, by rw [← e1]; assumption, by rw [← e2]; assumption⟩
end
end
section
local macro_rules | `(tactic| k_lt $h:ident) => `(tactic| (have k_tl := allLt_of $h; (simp only [AllLt, and_true] at k_tl); (repeat (replace k_tl := And.right k_tl)); replace $h := allLt_of $h; simp only [AllLt, and_true] at $h:ident))
local macro_rules | `(tactic| k_all) => `(tactic| first | exact Tl.apart (by assumption) |>.ne mem4_1 | exact Tl.apart (by assumption) |>.ne mem4_2 | exact Tl.apart (by assumption) |>.ne mem4_3 | exact Tl.apart (by assumption) |>.ne mem4_4 | exact allLt_ne (by assumption))
local macro_rules | `(tactic| k_room) => `(tactic| ((try simp only [depth_mark, depth_under_make, depth_under_kw, depth_in1, depth_deeper, depth_caller]); omega))
local macro_rules | `(tactic| walk_at "call ref") => `(tactic| (k_here; k_dflt (refine wpAny_call ?_; refine' enter ?k1 ?k2 ?k3 ?k4 ?k5 ?k6 ?k7 ?kA ?kF ?kK ?k8 ?k9 ?kR ?kB ?kL ?_ ?c2 ?c3 ?c4 ?c5; (case k1 => k_asm); (case k2 => k_asm); (case k3 => k_asm); (case k4 => k_asm); (case k5 => k_asm); (case k6 => repeat (first | exact TailAt.here | apply TailAt.cons)); (case k7 => exact four (by k_mem) (by k_mem) (by k_mem) (by k_mem)); (case kA => first | assumption | exact Around.frames_deeper (by assumption) | exact Around.frames_deeper (Around.frames_deeper (by assumption)) | exact Around.frames_deeper (Around.frames_deeper (Around.frames_deeper (by assumption)))); (case kF => first | assumption | rfl); (case kK => first | assumption | rfl); (case k8 => k_is); (case k9 => k_is); (case kR => k_room); (case kB => first | exact BindsTo.of_eq rfl | exact binds_K (by k_in) rfl (by k_is) rfl rfl rfl | fail "enter: no rule for these arguments"); (case kL => exact locs rfl); (case c5 => decide); (case c2 => exact rfl); (case c3 => exact rfl); (case c4 => exact rfl); k_whole; intro frs' L' h' TL' F' N'; (try dsimp only at N' ⊢); (try k_fold))))
local macro_rules | `(tactic| walk_at "LeaveM") => `(tactic| (k_dflt (first
  | (refine' leaveM1 ?k1 ?k2 ?k3 ?k4 ?k5 ?k6 ?k7 ?k8 ?_; (case k1 => assumption); (case k5 => assumption); (case k2 => first | assumption | rfl); (case k3 => assumption); (case k4 => assumption); (case k6 => k_mem); (case k7 => exact kept4 (by assumption) (by k_mem) (by k_mem) (by k_mem) (by k_mem)); (case k8 => (intro q hq; repeat (first | exact hq | refine List.mem_cons_of_mem _ ?_))); k_whole; intro frs' TL' F' N' lt')
  | (refine' leaveM ?k1 ?k2 ?k3 ?k4 ?k5 ?k6 ?_; (case k1 => assumption); (case k2 => first | assumption | rfl); (case k3 => assumption); (case k4 => assumption); (case k5 => exact kept4 (by assumption) (by k_mem) (by k_mem) (by k_mem) (by k_mem)); (case k6 => (intro q hq; repeat (first | exact hq | refine List.mem_cons_of_mem _ ?_))); k_whole; intro frs' TL' F' N')); (try simp only [List.cons_append, List.nil_append] at N'); (try dsimp only)))
local macro_rules | `(tactic| walk_at "compareOp In int ref") => `(tactic| (k_here; k_dflt (refine kda_in (knd := PySem.intKind _ _) (by k_asm) (by k_mem) (by k_asm) (by k_asm) (intKind_is _ _ _ _) _ (by first | assumption | exact isSome_of (by assumption) | exact Option.isSome_eq_false_iff.mpr (Option.isNone_iff_eq_none.mpr (by assumption)) | rfl) ?_)))
local macro_rules | `(tactic| walk_at "getMethod ref") => `(tactic| (k_here; (with_reducible show wpAny _ _ (getMethod (Value.ref _) (Str.ofString "pop") _) _ _ _); k_dflt (refine kob_method (knd := PySem.intKind _ _) PySem.F.slot_dict_pop PySem.F.type_dict_pop (by k_asm) (by k_mem) (by k_asm) ?_)))
local macro_rules | `(tactic| walk_at "getMethod ref") => `(tactic| (k_here; (with_reducible show wpAny _ _ (getMethod (Value.ref _) (Str.ofString "clear") _) _ _ _); k_dflt (refine kob_method (knd := PySem.intKind _ _) PySem.F.slot_dict_clear PySem.F.type_dict_clear (by k_asm) (by k_mem) (by k_asm) ?_)))
local macro_rules | `(tactic| walk_at "call builtin:dict.pop") => `(tactic| (k_here; k_dflt (first
  | (refine' kob_pop (knd := PySem.intKind _ _) (more := []) ?k1 ?k2 ?k3 ?k4 (intKind_is _ _ _ _) (.inl rfl) (by rfl) (PySem.F.args_dict_pop_2 _ _) ?k5 ?k6 ?_; (case k1 => k_asm); (case k2 => k_asm); (case k3 => k_updF); (case k4 => k_asm); (case k5 => assumption); (case k6 => rw [sizeLine_eq]; omega); intro h' o' F' N' hd'; (try dsimp only at N'))
  | (refine' pop_missing ?k0 ?k1 ?k2 ?k3 ?k4 ?k5 ?_; (case k1 => k_asm); (case k2 => k_mem); (case k3 => k_asm); (case k4 => k_asm); (case k5 => assumption); (case k0 => exact HdL.hd (by assumption) (fun q hq => (by assumption : News _ _ _ _) q (by (repeat (first | exact List.mem_append_left _ hq | refine List.mem_cons_of_mem _ ?_))) |>.1)); k_whole; intro h' e' x'))))
local macro_rules | `(tactic| walk_at "setItem ref int") => `(tactic| (k_here; k_dflt (refine' kda_set (knd := PySem.intKind _ _) ?k1 ?k2 ?k3 ?k4 (intKind_is _ _ _ _) ?k5 ?_; (case k1 => k_asm); (case k2 => k_asm); (case k3 => k_updF); (case k4 => k_asm); (case k5 => rw [sizeLine_eq]; (try simp only [List.length_append, List.length_cons, List.length_nil]); omega); intro h' o' F' N' hd'; (try dsimp only at N'))))
local macro_rules | `(tactic| walk_at "delItem ref int") => `(tactic| (k_here; k_dflt (refine' kob_del (knd := PySem.intKind _ _) ?k1 ?k2 ?k3 ?k4 (intKind_is _ _ _ _) ?k5 ?k6 ?_; (case k1 => k_asm); (case k2 => k_asm); (case k3 => k_updF); (case k4 => k_asm); (case k5 => first | assumption | exact isSome_of (by assumption)); (case k6 => rw [sizeLine_eq]; omega); intro h' o' F' N' hd'; (try dsimp only at N'))))
local macro_rules | `(tactic| walk_at "subscriptTail") => `(tactic| (k_here; (with_reducible show wpAny _ _ (subscriptTail _ _ (Value.ref _) (Value.int _ _)) _ _ _); k_dflt (first
  | (refine' kdt_tail (knd := PySem.intKind _ _) ?k1 ?k2 ?k3 (kdt_getItem (knd := PySem.intKind _ _) ?k1 ?k2 ?k3 (intKind_is _ _ _ _) ?k4 ?_); (case k1 => k_asm); (case k2 => k_mem); (case k3 => k_asm); (case k4 => assumption); k_whole)
  | (refine' tail_missing ?k0 ?k1 ?k2 ?k3 ?k4 ?k5 ?_; (case k0 => first | rfl | assumption); (case k1 => k_asm); (case k2 => k_mem); (case k3 => k_asm); (case k4 => k_asm); (case k5 => assumption); k_whole; intro h' e' x'))))
local macro_rules | `(tactic| walk_at "noteFrame ref") => `(tactic| (k_here; k_dflt (first
  | (refine' note_new ?k1 ?k2 ?k3 ?k4 ?k5 ?k6 ?k7 ?k8 ?_; (case k1 => assumption))
  | (refine' note_fly ?k1 ?k2 ?k3 ?k4 ?k5 ?k6 ?k7 ?k8 ?_; (case k1 => assumption))); (case k2 => assumption); (case k3 => assumption); (case k4 => assumption); (case k5 => first | assumption | exact Around.frames_deeper (by assumption) | exact Around.frames_deeper (Around.frames_deeper (by assumption)) | exact Around.frames_deeper (Around.frames_deeper (Around.frames_deeper (by assumption)))); (case k6 => exact kept4 (by assumption) (by k_mem) (by k_mem) (by k_mem) (by k_mem)); (case k7 => (intro q hq; repeat (first | exact hq | refine List.mem_cons_of_mem _ ?_))); (case k8 => rfl); k_whole; intro h' frs' TL' F' N' X'; (try simp only [List.cons_append, List.nil_append] at N' X')))
local macro_rules | `(tactic| walk_at "setFlight ref") => `(tactic| (k_here; k_dflt (refine' land_fly ?k1 ?k2 ?k3 ?_; (case k1 => assumption); (case k2 => assumption); (case k3 => assumption); k_whole; intro h' F' N' X')))
local macro_rules | `(tactic| walk_at "handleBy ref") => `(tactic| (k_here; k_dflt (first
  | (refine' handle_hit (T' := "KeyError") ?k1 ?k2 ?k3 ?k4 ?k5 ?k6 PyProof.Rows.Boot.«KeyError» ?k7 kr_isExc_KeyError kr_notTuple_KeyError ?k8 ?_ ?c1 ?c2 ?c3 ?c4; (case k1 => assumption); (case k2 => assumption); (case k3 => assumption); (case k4 => assumption); (case k5 => assumption); (case k6 => k_is); (case k7 => decide); (case k8 => rw [isSubtype_type]; kernel_rfl); (case c1 => rfl); (case c2 => rfl); (case c3 => decide); (case c4 => passes_own); k_whole)); intro h' oe' vs' F' N' hE' hv1' hv2'))
local macro_rules | `(tactic| walk_at "leaving ref") => `(tactic| (k_here; k_dflt (first
  | (refine' leave_new ?k1 ?k2 ?k3 ?k4 ?k9 ?k5 ?k6 ?k7 ?k8 ?_; (case k1 => assumption))
  | (refine' leave_fly ?k1 ?k2 ?k3 ?k4 ?k9 ?k5 ?k6 ?k7 ?k8 ?_; (case k1 => assumption))); (case k2 => assumption); (case k3 => assumption); (case k4 => assumption); (case k9 => first | assumption | rfl); (case k5 => first | assumption | exact Around.frames_deeper (by assumption) | exact Around.frames_deeper (Around.frames_deeper (by assumption)) | exact Around.frames_deeper (Around.frames_deeper (Around.frames_deeper (by assumption)))); (case k6 => exact kept4a (by k_mem) (by k_mem) (by k_mem) (by k_mem)); (case k7 => (intro q hq; repeat (first | exact hq | refine List.mem_cons_of_mem _ ?_))); (case k8 => rfl); k_whole; intro h' frs' TL' F' N' X'; (try simp only [List.cons_append, List.nil_append] at N' X'); (try dsimp only)))
local macro_rules | `(tactic| walk_at "delItem ref") => `(tactic| (k_here; (with_reducible show wpAny _ _ (delItem (Value.ref _) _) _ _ _); k_dflt (refine' del_inst ?k1 ?k2 ?k3 ?k4 ?k5 ?k6 ?_; (case k1 => k_asm); (case k2 => k_asm); (case k3 => k_inst); (case k4 => k_is); (case k5 => k_is); (case k6 => k_is); k_whole)))
local macro_rules | `(tactic| walk_at "WhlIf") => `(tactic| first | (refine WhlIf.yes (decide_eq_true (by omega)) ?_) | (refine WhlIf.no (decide_eq_false (by omega)) ?_))
local macro_rules | `(tactic| walk_at "delItem ref int") => `(tactic| (k_here; k_dflt (refine' del_missing ?k0 ?k1 ?k2 ?k3 ?k4 ?k5 ?_; (case k0 => first | rfl | assumption); (case k1 => k_asm); (case k2 => k_mem); (case k3 => k_asm); (case k4 => k_asm); (case k5 => assumption); k_whole; intro h' e' x')))
local macro_rules | `(tactic| walk_at "compareOp Is str ref") => `(tactic| refine is_str_ref ?_)
local macro_rules | `(tactic| walk_at "call builtin:len") => `(tactic| (k_here; (with_reducible show wpAny _ _ (call (Value.builtin "len") [Value.ref _]) _ _ _); k_dflt (refine kda_len (knd := PySem.intKind _ _) (by k_asm) (by k_mem) (by assumption) (by k_asm) (by omega) ?_)))
section
variable {prog : Program} {w : World} {A : Around} {E : Value → Shared → Prop} {s : Shared} {L x dx D O : Addr} {hb : Heap} {m mg mb : Str → Option Value} {rest frs : Led} {p : Program} {loose : List Str} {mean : ExcName → Option Value} {l : FrL} {env : Env}
  {mx : Int} {kvs ovs : List (Int × Value)} {k : Int} {t : Tok} {Q : Value → Shared → Prop}
theorem iter_ok (C : Cx 5 w A hb L env l p loose mean mg mb) (P : Apt x dx D O) (F : Fr hb L s.heap m) (TL : Tl hb [x, dx, D, O] l rest frs) (S : Cache prog w hb L s.heap x dx D O mx kvs ovs (rest ++ frs))
    (hQ : ∀ h' tk' frs' I oI h1 h2 h3 h4 t1 t2 t3 t4 tc tm oD oO ep, Tl hb [x, dx, D, O] l rest frs' → Fr hb L h' m → News hb L h' ((I, oI) :: (x, instObj 897 dx) :: (dx, dictOf (own h1 h2 h3 h4 t1 t2 t3 t4 D O (kvs.length : Int) mx tc tm) 4) :: (D, oD) :: (O, oO) :: (rest ++ frs')) → oD.IsDictOf (PySem.intKind prog w) kvs → oO.IsDictOf (PySem.intKind prog w) ovs →
      KdkIter oI D 0 kvs.length ep → KdkAt (PySem.intKind prog w) oD kvs ep → AllLt I (rest ++ frs') → Q (.ref I) { s with heap := h', toks := tk' }) :
    wpAny (model prog w) A (call (.ref 763) [.ref x]) Q E s := by
  obtain ⟨X, T, hA, hf, hke, hdep⟩ := C
  obtain ⟨h1, h2, h3, h4, t1, t2, t3, t4, tc, tm, oD, oO, N, hD, hO⟩ := S
  have P0 := P
  obtain ⟨g1, g2, g3, loD, loO⟩ := P
  replace g1 := ltN g1
  replace g2 := ltN g2
  replace g3 := ltN g3
  k_steps
  exact hQ _ _ _ _ _ _ _ _ _ _ _ _ _ _ _ _ _ _ (by assumption) (by assumption) (by assumption) (by assumption) (by assumption) (by assumption) (by assumption) (by assumption)
theorem len_ok (C : Cx 5 w A hb L env l p loose mean mg mb) (P : Apt x dx D O) (F : Fr hb L s.heap m) (TL : Tl hb [x, dx, D, O] l rest frs) (S : Cache prog w hb L s.heap x dx D O mx kvs ovs (rest ++ frs)) (z : kvs.length ≤ 8)
    (hQ : ∀ h' tk' frs' t, Tl hb [x, dx, D, O] l rest frs' → Fr hb L h' m → Cache prog w hb L h' x dx D O mx kvs ovs (rest ++ frs') → Q (.int (kvs.length : Int) t) { s with heap := h', toks := tk' }) :
    wpAny (model prog w) A (call (.ref 770) [.ref x]) Q E s := by
  obtain ⟨X, T, hA, hf, hke, hdep⟩ := C
  obtain ⟨h1, h2, h3, h4, t1, t2, t3, t4, tc, tm, oD, oO, N, hD, hO⟩ := S
  have P0 := P
  obtain ⟨g1, g2, g3, loD, loO⟩ := P
  replace g1 := ltN g1
  replace g2 := ltN g2
  replace g3 := ltN g3
  k_steps
  exact hQ _ _ _ _ (by assumption) (by assumption) ⟨_, _, _, _, _, _, _, _, _, _, _, _, by assumption, by assumption, by assumption⟩
theorem size_ok (C : Cx 5 w A hb L env l p loose mean mg mb) (P : Apt x dx D O) (F : Fr hb L s.heap m) (TL : Tl hb [x, dx, D, O] l rest frs) (S : Cache prog w hb L s.heap x dx D O mx kvs ovs (rest ++ frs))
    (hQ : ∀ h' tk' frs' t, Tl hb [x, dx, D, O] l rest frs' → Fr hb L h' m → Cache prog w hb L h' x dx D O mx kvs ovs (rest ++ frs') → Q (.int (kvs.length : Int) t) { s with heap := h', toks := tk' }) :
    wpAny (model prog w) A (call (.ref 816) [.ref x]) Q E s := by
  obtain ⟨X, T, hA, hf, hke, hdep⟩ := C
  obtain ⟨h1, h2, h3, h4, t1, t2, t3, t4, tc, tm, oD, oO, N, hD, hO⟩ := S
  have P0 := P
  obtain ⟨g1, g2, g3, loD, loO⟩ := P
  replace g1 := ltN g1
  replace g2 := ltN g2
  replace g3 := ltN g3
  k_steps
  exact hQ _ _ _ _ (by assumption) (by assumption) ⟨_, _, _, _, _, _, _, _, _, _, _, _, by assumption, by assumption, by assumption⟩
theorem size_code {R : Result → Shared → Prop} (C : Cx 5 w A hb L env l p loose mean mg mb) (P : Apt x dx D O) (F : Fr hb L s.heap m) (TL : Tl hb [x, dx, D, O] l rest frs) (S : Cache prog w hb L s.heap x dx D O mx kvs ovs (rest ++ frs))
    (hQ : ∀ h' tk' frs' t, Tl hb [x, dx, D, O] l rest frs' → Fr hb L h' m → Cache prog w hb L h' x dx D O mx kvs ovs (rest ++ frs') → R (.ok (.ret (.int (kvs.length : Int) t))) { s with heap := h', toks := tk' }) :
    codeAny (model prog w) A (.call (.ref 816) ⟨[.ref x], []⟩) R s := by
  obtain ⟨X, T, hA, hf, hke, hdep⟩ := C
  obtain ⟨h1, h2, h3, h4, t1, t2, t3, t4, tc, tm, oD, oO, N, hD, hO⟩ := S
  have P0 := P
  obtain ⟨g1, g2, g3, loD, loO⟩ := P
  replace g1 := ltN g1
  replace g2 := ltN g2
  replace g3 := ltN g3
  (refine' enter ?k1 ?k2 ?k3 ?k4 ?k5 ?k6 ?k7 ?kA ?kF ?kK ?k8 ?k9 ?kR ?kB ?kL ?_ ?c2 ?c3 ?c4 ?c5; (case k1 => k_asm); (case k2 => k_asm); (case k3 => k_asm); (case k4 => k_asm); (case k5 => k_asm); (case k6 => repeat (first | exact TailAt.here | apply TailAt.cons)); (case k7 => exact four (by k_mem) (by k_mem) (by k_mem) (by k_mem)); (case kA => first | assumption | exact Around.frames_deeper (by assumption) | exact Around.frames_deeper (Around.frames_deeper (by assumption)) | exact Around.frames_deeper (Around.frames_deeper (Around.frames_deeper (by assumption)))); (case kF => first | assumption | rfl); (case kK => first | assumption | rfl); (case k8 => k_is); (case k9 => k_is); (case kR => k_room); (case kB => first | exact BindsTo.of_eq rfl | exact binds_K (by k_in) rfl (by k_is) rfl rfl rfl | fail "enter: no rule for these arguments"); (case kL => exact locs rfl); (case c5 => decide); (case c2 => exact rfl); (case c3 => exact rfl); (case c4 => exact rfl); k_whole; intro frs' L' h' TL' F' N'; (try dsimp only at N' ⊢); (try k_fold))
  k_steps
  exact hQ _ _ _ _ (by assumption) (by assumption) ⟨_, _, _, _, _, _, _, _, _, _, _, _, by assumption, by assumption, by assumption⟩
theorem size_get {expr : Bool} (C : Cx 5 w A hb L env l p loose mean mg mb) (P : Apt x dx D O) (F : Fr hb L s.heap m) (TL : Tl hb [x, dx, D, O] l rest frs) (S : Cache prog w hb L s.heap x dx D O mx kvs ovs (rest ++ frs))
    (hQ : ∀ h' tk' frs' t, Tl hb [x, dx, D, O] l rest frs' → Fr hb L h' m → Cache prog w hb L h' x dx D O mx kvs ovs (rest ++ frs') → Q (.int (kvs.length : Int) t) { s with heap := h', toks := tk' }) :
    wpAny (model prog w) A (getAttr (.ref x) (Str.ofString "currsize") expr) Q E s := by
  have S0 := S
  obtain ⟨X, T, hA, hf, hke, hdep⟩ := C
  obtain ⟨h1, h2, h3, h4, t1, t2, t3, t4, tc, tm, oD, oO, N, hD, hO⟩ := S
  (refine' get_prop ?k1 ?k2 ?k3 ?k4 ?k5 ?k6 ?k7 ?k8 ?k9 ?_; (case k1 => k_asm); (case k2 => k_asm); (case k3 => k_inst); (case k4 => k_is); (case k5 => k_is); (case k6 => k_is); (case k7 => k_is); (case k8 => k_is); (case k9 => k_is); k_whole)
  refine size_code (s := { s with toks := s.toks + 1 }) ⟨X, T, hA, hf, hke, hdep⟩ P F TL S0 fun h' tk' frs' t a b c => ?_
  exact handed_on rfl (hQ h' tk' frs' t a b c)
end
end
section
local macro_rules | `(tactic| k_lt $h:ident) => `(tactic| (have k_tl := allLt_of $h; (simp only [AllLt, and_true] at k_tl); (repeat (replace k_tl := And.right k_tl)); replace $h := allLt_of $h; simp only [AllLt, and_true] at $h:ident))
local macro_rules | `(tactic| k_all) => `(tactic| first | exact Tl.apart (by assumption) |>.ne mem4_1 | exact Tl.apart (by assumption) |>.ne mem4_2 | exact Tl.apart (by assumption) |>.ne mem4_3 | exact Tl.apart (by assumption) |>.ne mem4_4 | exact allLt_ne (by assumption))
local macro_rules | `(tactic| k_room) => `(tactic| ((try simp only [depth_mark, depth_under_make, depth_under_kw, depth_in1, depth_deeper, depth_caller]); omega))
local macro_rules | `(tactic| walk_at "call ref") => `(tactic| (k_here; k_dflt (refine wpAny_call ?_; refine' enter ?k1 ?k2 ?k3 ?k4 ?k5 ?k6 ?k7 ?kA ?kF ?kK ?k8 ?k9 ?kR ?kB ?kL ?_ ?c2 ?c3 ?c4 ?c5; (case k1 => k_asm); (case k2 => k_asm); (case k3 => k_asm); (case k4 => k_asm); (case k5 => k_asm); (case k6 => repeat (first | exact TailAt.here | apply TailAt.cons)); (case k7 => exact four (by k_mem) (by k_mem) (by k_mem) (by k_mem)); (case kA => first | assumption | exact Around.frames_deeper (by assumption) | exact Around.frames_deeper (Around.frames_deeper (by assumption)) | exact Around.frames_deeper (Around.frames_deeper (Around.frames_deeper (by assumption)))); (case kF => first | assumption | rfl); (case kK => first | assumption | rfl); (case k8 => k_is); (case k9 => k_is); (case kR => k_room); (case kB => first | exact BindsTo.of_eq rfl | exact binds_K (by k_in) rfl (by k_is) rfl rfl rfl | fail "enter: no rule for these arguments"); (case kL => exact locs rfl); (case c5 => decide); (case c2 => exact rfl); (case c3 => exact rfl); (case c4 => exact rfl); k_whole; intro frs' L' h' TL' F' N'; (try dsimp only at N' ⊢); (try k_fold))))
local macro_rules | `(tactic| walk_at "LeaveM") => `(tactic| (k_dflt (first
  | (refine' leaveM1 ?k1 ?k2 ?k3 ?k4 ?k5 ?k6 ?k7 ?k8 ?_; (case k1 => assumption); (case k5 => assumption); (case k2 => first | assumption | rfl); (case k3 => assumption); (case k4 => assumption); (case k6 => k_mem); (case k7 => exact kept4 (by assumption) (by k_mem) (by k_mem) (by k_mem) (by k_mem)); (case k8 => (intro q hq; repeat (first | exact hq | refine List.mem_cons_of_mem _ ?_))); k_whole; intro frs' TL' F' N' lt')
  | (refine' leaveM ?k1 ?k2 ?k3 ?k4 ?k5 ?k6 ?_; (case k1 => assumption); (case k2 => first | assumption | rfl); (case k3 => assumption); (case k4 => assumption); (case k5 => exact kept4 (by assumption) (by k_mem) (by k_mem) (by k_mem) (by k_mem)); (case k6 => (intro q hq; repeat (first | exact hq | refine List.mem_cons_of_mem _ ?_))); k_whole; intro frs' TL' F' N')); (try simp only [List.cons_append, List.nil_append] at N'); (try dsimp only)))
local macro_rules | `(tactic| walk_at "compareOp In int ref") => `(tactic| (k_here; k_dflt (refine kda_in (knd := PySem.intKind _ _) (by k_asm) (by k_mem) (by k_asm) (by k_asm) (intKind_is _ _ _ _) _ (by first | assumption | exact isSome_of (by assumption) | exact Option.isSome_eq_false_iff.mpr (Option.isNone_iff_eq_none.mpr (by assumption)) | rfl) ?_)))
local macro_rules | `(tactic| walk_at "getMethod ref") => `(tactic| (k_here; (with_reducible show wpAny _ _ (getMethod (Value.ref _) (Str.ofString "pop") _) _ _ _); k_dflt (refine kob_method (knd := PySem.intKind _ _) PySem.F.slot_dict_pop PySem.F.type_dict_pop (by k_asm) (by k_mem) (by k_asm) ?_)))
local macro_rules | `(tactic| walk_at "getMethod ref") => `(tactic| (k_here; (with_reducible show wpAny _ _ (getMethod (Value.ref _) (Str.ofString "clear") _) _ _ _); k_dflt (refine kob_method (knd := PySem.intKind _ _) PySem.F.slot_dict_clear PySem.F.type_dict_clear (by k_asm) (by k_mem) (by k_asm) ?_)))
local macro_rules | `(tactic| walk_at "call builtin:dict.pop") => `(tactic| (k_here; k_dflt (first
  | (refine' kob_pop (knd := PySem.intKind _ _) (more := []) ?k1 ?k2 ?k3 ?k4 (intKind_is _ _ _ _) (.inl rfl) (by rfl) (PySem.F.args_dict_pop_2 _ _) ?k5 ?k6 ?_; (case k1 => k_asm); (case k2 => k_asm); (case k3 => k_updF); (case k4 => k_asm); (case k5 => assumption); (case k6 => rw [sizeLine_eq]; omega); intro h' o' F' N' hd'; (try dsimp only at N'))
  | (refine' pop_missing ?k0 ?k1 ?k2 ?k3 ?k4 ?k5 ?_; (case k1 => k_asm); (case k2 => k_mem); (case k3 => k_asm); (case k4 => k_asm); (case k5 => assumption); (case k0 => exact HdL.hd (by assumption) (fun q hq => (by assumption : News _ _ _ _) q (by (repeat (first | exact List.mem_append_left _ hq | refine List.mem_cons_of_mem _ ?_))) |>.1)); k_whole; intro h' e' x'))))
local macro_rules | `(tactic| walk_at "setItem ref int") => `(tactic| (k_here; k_dflt (refine' kda_set (knd := PySem.intKind _ _) ?k1 ?k2 ?k3 ?k4 (intKind_is _ _ _ _) ?k5 ?_; (case k1 => k_asm); (case k2 => k_asm); (case k3 => k_updF); (case k4 => k_asm); (case k5 => rw [sizeLine_eq]; (try simp only [List.length_append, List.length_cons, List.length_nil]); omega); intro h' o' F' N' hd'; (try dsimp only at N'))))
local macro_rules | `(tactic| walk_at "delItem ref int") => `(tactic| (k_here; k_dflt (refine' kob_del (knd := PySem.intKind _ _) ?k1 ?k2 ?k3 ?k4 (intKind_is _ _ _ _) ?k5 ?k6 ?_; (case k1 => k_asm); (case k2 => k_asm); (case k3 => k_updF); (case k4 => k_asm); (case k5 => first | assumption | exact isSome_of (by assumption)); (case k6 => rw [sizeLine_eq]; omega); intro h' o' F' N' hd'; (try dsimp only at N'))))
local macro_rules | `(tactic| walk_at "subscriptTail") => `(tactic| (k_here; (with_reducible show wpAny _ _ (subscriptTail _ _ (Value.ref _) (Value.int _ _)) _ _ _); k_dflt (first
  | (refine' kdt_tail (knd := PySem.intKind _ _) ?k1 ?k2 ?k3 (kdt_getItem (knd := PySem.intKind _ _) ?k1 ?k2 ?k3 (intKind_is _ _ _ _) ?k4 ?_); (case k1 => k_asm); (case k2 => k_mem); (case k3 => k_asm); (case k4 => assumption); k_whole)
  | (refine' tail_missing ?k0 ?k1 ?k2 ?k3 ?k4 ?k5 ?_; (case k0 => first | rfl | assumption); (case k1 => k_asm); (case k2 => k_mem); (case k3 => k_asm); (case k4 => k_asm); (case k5 => assumption); k_whole; intro h' e' x'))))
local macro_rules | `(tactic| walk_at "noteFrame ref") => `(tactic| (k_here; k_dflt (first
  | (refine' note_new ?k1 ?k2 ?k3 ?k4 ?k5 ?k6 ?k7 ?k8 ?_; (case k1 => assumption))
  | (refine' note_fly ?k1 ?k2 ?k3 ?k4 ?k5 ?k6 ?k7 ?k8 ?_; (case k1 => assumption))); (case k2 => assumption); (case k3 => assumption); (case k4 => assumption); (case k5 => first | assumption | exact Around.frames_deeper (by assumption) | exact Around.frames_deeper (Around.frames_deeper (by assumption)) | exact Around.frames_deeper (Around.frames_deeper (Around.frames_deeper (by assumption)))); (case k6 => exact kept4 (by assumption) (by k_mem) (by k_mem) (by k_mem) (by k_mem)); (case k7 => (intro q hq; repeat (first | exact hq | refine List.mem_cons_of_mem _ ?_))); (case k8 => rfl); k_whole; intro h' frs' TL' F' N' X'; (try simp only [List.cons_append, List.nil_append] at N' X')))
local macro_rules | `(tactic| walk_at "setFlight ref") => `(tactic| (k_here; k_dflt (refine' land_fly ?k1 ?k2 ?k3 ?_; (case k1 => assumption); (case k2 => assumption); (case k3 => assumption); k_whole; intro h' F' N' X')))
local macro_rules | `(tactic| walk_at "handleBy ref") => `(tactic| (k_here; k_dflt (first
  | (refine' handle_hit (T' := "KeyError") ?k1 ?k2 ?k3 ?k4 ?k5 ?k6 PyProof.Rows.Boot.«KeyError» ?k7 kr_isExc_KeyError kr_notTuple_KeyError ?k8 ?_ ?c1 ?c2 ?c3 ?c4; (case k1 => assumption); (case k2 => assumption); (case k3 => assumption); (case k4 => assumption); (case k5 => assumption); (case k6 => k_is); (case k7 => decide); (case k8 => rw [isSubtype_type]; kernel_rfl); (case c1 => rfl); (case c2 => rfl); (case c3 => decide); (case c4 => passes_own); k_whole)); intro h' oe' vs' F' N' hE' hv1' hv2'))
local macro_rules | `(tactic| walk_at "leaving ref") => `(tactic| (k_here; k_dflt (first
  | (refine' leave_new ?k1 ?k2 ?k3 ?k4 ?k9 ?k5 ?k6 ?k7 ?k8 ?_; (case k1 => assumption))
  | (refine' leave_fly ?k1 ?k2 ?k3 ?k4 ?k9 ?k5 ?k6 ?k7 ?k8 ?_; (case k1 => assumption))); (case k2 => assumption); (case k3 => assumption); (case k4 => assumption); (case k9 => first | assumption | rfl); (case k5 => first | assumption | exact Around.frames_deeper (by assumption) | exact Around.frames_deeper (Around.frames_deeper (by assumption)) | exact Around.frames_deeper (Around.frames_deeper (Around.frames_deeper (by assumption)))); (case k6 => exact kept4a (by k_mem) (by k_mem) (by k_mem) (by k_mem)); (case k7 => (intro q hq; repeat (first | exact hq | refine List.mem_cons_of_mem _ ?_))); (case k8 => rfl); k_whole; intro h' frs' TL' F' N' X'; (try simp only [List.cons_append, List.nil_append] at N' X'); (try dsimp only)))
local macro_rules | `(tactic| walk_at "delItem ref") => `(tactic| (k_here; (with_reducible show wpAny _ _ (delItem (Value.ref _) _) _ _ _); k_dflt (refine' del_inst ?k1 ?k2 ?k3 ?k4 ?k5 ?k6 ?_; (case k1 => k_asm); (case k2 => k_asm); (case k3 => k_inst); (case k4 => k_is); (case k5 => k_is); (case k6 => k_is); k_whole)))
local macro_rules | `(tactic| walk_at "WhlIf") => `(tactic| first | (refine WhlIf.yes (decide_eq_true (by omega)) ?_) | (refine WhlIf.no (decide_eq_false (by omega)) ?_))
local macro_rules | `(tactic| walk_at "delItem ref int") => `(tactic| (k_here; k_dflt (refine' del_missing ?k0 ?k1 ?k2 ?k3 ?k4 ?k5 ?_; (case k0 => first | rfl | assumption); (case k1 => k_asm); (case k2 => k_mem); (case k3 => k_asm); (case k4 => k_asm); (case k5 => assumption); k_whole; intro h' e' x')))
local macro_rules | `(tactic| walk_at "compareOp Is str ref") => `(tactic| refine is_str_ref ?_)
local macro_rules | `(tactic| walk_at "call ref") => `(tactic| (k_here; (with_reducible show wpAny _ _ (call (Value.ref 873) _) _ _ _); k_dflt (refine' delitem_ok ?k1 ?k2 ?k3 ?k4 ?k5 ?k6 ?k7 ?k8 ?k9 ?_; (case k2 => assumption); (case k3 => assumption); (case k4 => assumption); (case k1 => exact ⟨by assumption, by assumption, by (first | assumption | exact Around.frames_deeper (by assumption) | exact Around.frames_deeper (Around.frames_deeper (by assumption)) | exact Around.frames_deeper (Around.frames_deeper (Around.frames_deeper (by assumption)))), by (first | assumption | rfl), by (first | assumption | rfl), by k_room⟩); (case k5 => exact ⟨_, _, _, _, _, _, _, _, _, _, _, _, by (first | assumption | exact cb_drop (by assumption) (by intro q hq; repeat (first | exact hq | refine List.mem_cons_of_mem _ ?_))), by assumption, by assumption⟩); (case k6 => assumption); (case k7 => assumption); (case k8 => omega); (case k9 => omega); k_whole; intro h' tk' frs' TL' F' S'; obtain ⟨_, _, _, _, _, _, _, _, _, _, _, _, N', hD', hO'⟩ := S'; (try dsimp only))))
local macro_rules | `(tactic| walk_at "no such key 0") => `(tactic| fail)
section
variable {prog : Program} {w : World} {A : Around} {E : Value → Shared → Prop} {s : Shared} {L x dx D O : Addr} {hb : Heap} {m mg mb : Str → Option Value} {rest frs : Led} {p : Program} {loose : List Str} {mean : ExcName → Option Value} {l : FrL} {env : Env}
  {mx : Int} {kvs ovs : List (Int × Value)} {k : Int} {t : Tok} {Q : Value → Shared → Prop}
theorem popitem_ok {k0 : Int} {u0 v : Value} {ovr : List (Int × Value)} (C : Cx 10 w A hb L env l p loose mean mg mb) (P : Apt x dx D O) (F : Fr hb L s.heap m) (TL : Tl hb [x, dx, D, O] l rest frs) (S : Cache prog w hb L s.heap x dx D O mx kvs ((k0, u0) :: ovr) (rest ++ frs))
    (hk : valueAt kvs k0 = some v) (z1 : kvs.length ≤ 8) (z2 : ovr.length + 1 ≤ 8)
    (hQ : ∀ h' tk' frs' tp t0 n, Tl hb [x, dx, D, O] l rest frs' → Fr hb L h' m → Cache prog w hb L h' x dx D O mx (without kvs k0) ovr ((tp, { cls := .type "tuple", data := .seq #[.int k0 t0, v] n }) :: (rest ++ frs')) → AllLt tp (rest ++ frs') → O < tp → Q (.ref tp) { s with heap := h', toks := tk' }) :
    wpAny (model prog w) A (call (.ref 880) [.ref x]) Q E s := by
  obtain ⟨X, T, hA, hf, hke, hdep⟩ := C
  obtain ⟨h1, h2, h3, h4, t1, t2, t3, t4, tc, tm, oD, oO, N, hD, hO⟩ := S
  have P0 := P
  obtain ⟨g1, g2, g3, loD, loO⟩ := P
  replace g1 := ltN g1
  replace g2 := ltN g2
  replace g3 := ltN g3
  have z3 : ((k0, u0) :: ovr).length ≤ 8 := z2
  have ho : valueAt ((k0, u0) :: ovr) k0 = some u0 := by rw [valueAt_cons, if_pos rfl]
  have eo := without_head (nodup_of hO)
  k_steps
  exact hQ _ _ _ _ _ _ (by assumption) (by assumption) ⟨_, _, _, _, _, _, _, _, _, _, _, _, mv5 (by assumption), by assumption, by first | assumption | (rw [← eo]; assumption)⟩ (by assumption) (ltN (by omega))
end
end
section
local macro_rules | `(tactic| k_lt $h:ident) => `(tactic| (have k_tl := allLt_of $h; (simp only [AllLt, and_true] at k_tl); (repeat (replace k_tl := And.right k_tl)); replace $h := allLt_of $h; simp only [AllLt, and_true] at $h:ident))
local macro_rules | `(tactic| k_all) => `(tactic| first | exact Tl.apart (by assumption) |>.ne mem4_1 | exact Tl.apart (by assumption) |>.ne mem4_2 | exact Tl.apart (by assumption) |>.ne mem4_3 | exact Tl.apart (by assumption) |>.ne mem4_4 | exact allLt_ne (by assumption))
local macro_rules | `(tactic| k_room) => `(tactic| ((try simp only [depth_mark, depth_under_make, depth_under_kw, depth_in1, depth_deeper, depth_caller]); omega))
local macro_rules | `(tactic| walk_at "call ref") => `(tactic| (k_here; k_dflt (refine wpAny_call ?_; refine' enter ?k1 ?k2 ?k3 ?k4 ?k5 ?k6 ?k7 ?kA ?kF ?kK ?k8 ?k9 ?kR ?kB ?kL ?_ ?c2 ?c3 ?c4 ?c5; (case k1 => k_asm); (case k2 => k_asm); (case k3 => k_asm); (case k4 => k_asm); (case k5 => k_asm); (case k6 => repeat (first | exact TailAt.here | apply TailAt.cons)); (case k7 => exact four (by k_mem) (by k_mem) (by k_mem) (by k_mem)); (case kA => first | assumption | exact Around.frames_deeper (by assumption) | exact Around.frames_deeper (Around.frames_deeper (by assumption)) | exact Around.frames_deeper (Around.frames_deeper (Around.frames_deeper (by assumption)))); (case kF => first | assumption | rfl); (case kK => first | assumption | rfl); (case k8 => k_is); (case k9 => k_is); (case kR => k_room); (case kB => first | exact BindsTo.of_eq rfl | exact binds_K (by k_in) rfl (by k_is) rfl rfl rfl | fail "enter: no rule for these arguments"); (case kL => exact locs rfl); (case c5 => decide); (case c2 => exact rfl); (case c3 => exact rfl); (case c4 => exact rfl); k_whole; intro frs' L' h' TL' F' N'; (try dsimp only at N' ⊢); (try k_fold))))
local macro_rules | `(tactic| walk_at "LeaveM") => `(tactic| (k_dflt (first
  | (refine' leaveM1 ?k1 ?k2 ?k3 ?k4 ?k5 ?k6 ?k7 ?k8 ?_; (case k1 => assumption); (case k5 => assumption); (case k2 => first | assumption | rfl); (case k3 => assumption); (case k4 => assumption); (case k6 => k_mem); (case k7 => exact kept4 (by assumption) (by k_mem) (by k_mem) (by k_mem) (by k_mem)); (case k8 => (intro q hq; repeat (first | exact hq | refine List.mem_cons_of_mem _ ?_))); k_whole; intro frs' TL' F' N' lt')
  | (refine' leaveM ?k1 ?k2 ?k3 ?k4 ?k5 ?k6 ?_; (case k1 => assumption); (case k2 => first | assumption | rfl); (case k3 => assumption); (case k4 => assumption); (case k5 => exact kept4 (by assumption) (by k_mem) (by k_mem) (by k_mem) (by k_mem)); (case k6 => (intro q hq; repeat (first | exact hq | refine List.mem_cons_of_mem _ ?_))); k_whole; intro frs' TL' F' N')); (try simp only [List.cons_append, List.nil_append] at N'); (try dsimp only)))
local macro_rules | `(tactic| walk_at "compareOp In int ref") => `(tactic| (k_here; k_dflt (refine kda_in (knd := PySem.intKind _ _) (by k_asm) (by k_mem) (by k_asm) (by k_asm) (intKind_is _ _ _ _) _ (by first | assumption | exact isSome_of (by assumption) | exact Option.isSome_eq_false_iff.mpr (Option.isNone_iff_eq_none.mpr (by assumption)) | rfl) ?_)))
local macro_rules | `(tactic| walk_at "getMethod ref") => `(tactic| (k_here; (with_reducible show wpAny _ _ (getMethod (Value.ref _) (Str.ofString "pop") _) _ _ _); k_dflt (refine kob_method (knd := PySem.intKind _ _) PySem.F.slot_dict_pop PySem.F.type_dict_pop (by k_asm) (by k_mem) (by k_asm) ?_)))
local macro_rules | `(tactic| walk_at "getMethod ref") => `(tactic| (k_here; (with_reducible show wpAny _ _ (getMethod (Value.ref _) (Str.ofString "clear") _) _ _ _); k_dflt (refine kob_method (knd := PySem.intKind _ _) PySem.F.slot_dict_clear PySem.F.type_dict_clear (by k_asm) (by k_mem) (by k_asm) ?_)))
local macro_rules | `(tactic| walk_at "call builtin:dict.pop") => `(tactic| (k_here; k_dflt (first
  | (refine' kob_pop (knd := PySem.intKind _ _) (more := []) ?k1 ?k2 ?k3 ?k4 (intKind_is _ _ _ _) (.inl rfl) (by rfl) (PySem.F.args_dict_pop_2 _ _) ?k5 ?k6 ?_; (case k1 => k_asm); (case k2 => k_asm); (case k3 => k_updF); (case k4 => k_asm); (case k5 => assumption); (case k6 => rw [sizeLine_eq]; omega); intro h' o' F' N' hd'; (try dsimp only at N'))
  | (refine' pop_missing ?k0 ?k1 ?k2 ?k3 ?k4 ?k5 ?_; (case k1 => k_asm); (case k2 => k_mem); (case k3 => k_asm); (case k4 => k_asm); (case k5 => assumption); (case k0 => exact HdL.hd (by assumption) (fun q hq => (by assumption : News _ _ _ _) q (by (repeat (first | exact List.mem_append_left _ hq | refine List.mem_cons_of_mem _ ?_))) |>.1)); k_whole; intro h' e' x'))))
local macro_rules | `(tactic| walk_at "setItem ref int") => `(tactic| (k_here; k_dflt (refine' kda_set (knd := PySem.intKind _ _) ?k1 ?k2 ?k3 ?k4 (intKind_is _ _ _ _) ?k5 ?_; (case k1 => k_asm); (case k2 => k_asm); (case k3 => k_updF); (case k4 => k_asm); (case k5 => rw [sizeLine_eq]; (try simp only [List.length_append, List.length_cons, List.length_nil]); omega); intro h' o' F' N' hd'; (try dsimp only at N'))))
local macro_rules | `(tactic| walk_at "delItem ref int") => `(tactic| (k_here; k_dflt (refine' kob_del (knd := PySem.intKind _ _) ?k1 ?k2 ?k3 ?k4 (intKind_is _ _ _ _) ?k5 ?k6 ?_; (case k1 => k_asm); (case k2 => k_asm); (case k3 => k_updF); (case k4 => k_asm); (case k5 => first | assumption | exact isSome_of (by assumption)); (case k6 => rw [sizeLine_eq]; omega); intro h' o' F' N' hd'; (try dsimp only at N'))))
local macro_rules | `(tactic| walk_at "subscriptTail") => `(tactic| (k_here; (with_reducible show wpAny _ _ (subscriptTail _ _ (Value.ref _) (Value.int _ _)) _ _ _); k_dflt (first
  | (refine' kdt_tail (knd := PySem.intKind _ _) ?k1 ?k2 ?k3 (kdt_getItem (knd := PySem.intKind _ _) ?k1 ?k2 ?k3 (intKind_is _ _ _ _) ?k4 ?_); (case k1 => k_asm); (case k2 => k_mem); (case k3 => k_asm); (case k4 => assumption); k_whole)
  | (refine' tail_missing ?k0 ?k1 ?k2 ?k3 ?k4 ?k5 ?_; (case k0 => first | rfl | assumption); (case k1 => k_asm); (case k2 => k_mem); (case k3 => k_asm); (case k4 => k_asm); (case k5 => assumption); k_whole; intro h' e' x'))))
local macro_rules | `(tactic| walk_at "noteFrame ref") => `(tactic| (k_here; k_dflt (first
  | (refine' note_new ?k1 ?k2 ?k3 ?k4 ?k5 ?k6 ?k7 ?k8 ?_; (case k1 => assumption))
  | (refine' note_fly ?k1 ?k2 ?k3 ?k4 ?k5 ?k6 ?k7 ?k8 ?_; (case k1 => assumption))); (case k2 => assumption); (case k3 => assumption); (case k4 => assumption); (case k5 => first | assumption | exact Around.frames_deeper (by assumption) | exact Around.frames_deeper (Around.frames_deeper (by assumption)) | exact Around.frames_deeper (Around.frames_deeper (Around.frames_deeper (by assumption)))); (case k6 => exact kept4 (by assumption) (by k_mem) (by k_mem) (by k_mem) (by k_mem)); (case k7 => (intro q hq; repeat (first | exact hq | refine List.mem_cons_of_mem _ ?_))); (case k8 => rfl); k_whole; intro h' frs' TL' F' N' X'; (try simp only [List.cons_append, List.nil_append] at N' X')))
local macro_rules | `(tactic| walk_at "setFlight ref") => `(tactic| (k_here; k_dflt (refine' land_fly ?k1 ?k2 ?k3 ?_; (case k1 => assumption); (case k2 => assumption); (case k3 => assumption); k_whole; intro h' F' N' X')))
local macro_rules | `(tactic| walk_at "handleBy ref") => `(tactic| (k_here; k_dflt (first
  | (refine' handle_hit (T' := "KeyError") ?k1 ?k2 ?k3 ?k4 ?k5 ?k6 PyProof.Rows.Boot.«KeyError» ?k7 kr_isExc_KeyError kr_notTuple_KeyError ?k8 ?_ ?c1 ?c2 ?c3 ?c4; (case k1 => assumption); (case k2 => assumption); (case k3 => assumption); (case k4 => assumption); (case k5 => assumption); (case k6 => k_is); (case k7 => decide); (case k8 => rw [isSubtype_type]; kernel_rfl); (case c1 => rfl); (case c2 => rfl); (case c3 => decide); (case c4 => passes_own); k_whole)); intro h' oe' vs' F' N' hE' hv1' hv2'))
local macro_rules | `(tactic| walk_at "leaving ref") => `(tactic| (k_here; k_dflt (first
  | (refine' leave_new ?k1 ?k2 ?k3 ?k4 ?k9 ?k5 ?k6 ?k7 ?k8 ?_; (case k1 => assumption))
  | (refine' leave_fly ?k1 ?k2 ?k3 ?k4 ?k9 ?k5 ?k6 ?k7 ?k8 ?_; (case k1 => assumption))); (case k2 => assumption); (case k3 => assumption); (case k4 => assumption); (case k9 => first | assumption | rfl); (case k5 => first | assumption | exact Around.frames_deeper (by assumption) | exact Around.frames_deeper (Around.frames_deeper (by assumption)) | exact Around.frames_deeper (Around.frames_deeper (Around.frames_deeper (by assumption)))); (case k6 => exact kept4a (by k_mem) (by k_mem) (by k_mem) (by k_mem)); (case k7 => (intro q hq; repeat (first | exact hq | refine List.mem_cons_of_mem _ ?_))); (case k8 => rfl); k_whole; intro h' frs' TL' F' N' X'; (try simp only [List.cons_append, List.nil_append] at N' X'); (try dsimp only)))
local macro_rules | `(tactic| walk_at "delItem ref") => `(tactic| (k_here; (with_reducible show wpAny _ _ (delItem (Value.ref _) _) _ _ _); k_dflt (refine' del_inst ?k1 ?k2 ?k3 ?k4 ?k5 ?k6 ?_; (case k1 => k_asm); (case k2 => k_asm); (case k3 => k_inst); (case k4 => k_is); (case k5 => k_is); (case k6 => k_is); k_whole)))
local macro_rules | `(tactic| walk_at "WhlIf") => `(tactic| first | (refine WhlIf.yes (decide_eq_true (by omega)) ?_) | (refine WhlIf.no (decide_eq_false (by omega)) ?_))
local macro_rules | `(tactic| walk_at "delItem ref int") => `(tactic| (k_here; k_dflt (refine' del_missing ?k0 ?k1 ?k2 ?k3 ?k4 ?k5 ?_; (case k0 => first | rfl | assumption); (case k1 => k_asm); (case k2 => k_mem); (case k3 => k_asm); (case k4 => k_asm); (case k5 => assumption); k_whole; intro h' e' x')))
local macro_rules | `(tactic| walk_at "compareOp Is str ref") => `(tactic| refine is_str_ref ?_)
local macro_rules | `(tactic| walk_at "call ref") => `(tactic| (k_here; (with_reducible show wpAny _ _ (call (Value.ref 880) _) _ _ _); k_dflt (refine' popitem_ok ?k1 ?k2 ?k3 ?k4 ?k5 ?k6 ?k7 ?k8 ?_; (case k2 => assumption); (case k3 => assumption); (case k4 => assumption); (case k1 => exact ⟨by assumption, by assumption, by (first | assumption | exact Around.frames_deeper (by assumption) | exact Around.frames_deeper (Around.frames_deeper (by assumption)) | exact Around.frames_deeper (Around.frames_deeper (Around.frames_deeper (by assumption)))), by (first | assumption | rfl), by (first | assumption | rfl), by k_room⟩); (case k5 => exact ⟨_, _, _, _, _, _, _, _, _, _, _, _, by (first | assumption | exact cb_drop (by assumption) (by intro q hq; repeat (first | exact hq | refine List.mem_cons_of_mem _ ?_))), by assumption, by assumption⟩); (case k6 => assumption); (case k7 => omega); (case k8 => omega); k_whole; intro h' tk' frs' tp' t0' n' TL' F' S' tl' to'; replace to' := ltN to'; obtain ⟨_, _, _, _, _, _, _, _, _, _, _, _, N', hD', hO'⟩ := S'; (try dsimp only))))
local macro_rules | `(tactic| walk_at "no such key 0") => `(tactic| fail)
local macro_rules | `(tactic| walk_at "no such key 1") => `(tactic| fail)
section
variable {prog : Program} {w : World} {A : Around} {E : Value → Shared → Prop} {s : Shared} {L x dx D O : Addr} {hb : Heap} {m mg mb : Str → Option Value} {rest frs : Led} {p : Program} {loose : List Str} {mean : ExcName → Option Value} {l : FrL} {env : Env}
  {mx : Int} {kvs ovs : List (Int × Value)} {k : Int} {t : Tok} {Q : Value → Shared → Prop}
theorem setfull_ok {k0 : Int} {u0 v v0 : Value} {ovr : List (Int × Value)} (C : Cx 16 w A hb L env l p loose mean mg mb) (P : Apt x dx D O) (F : Fr hb L s.heap m) (TL : Tl hb [x, dx, D, O] l rest frs) (S : Cache prog w hb L s.heap x dx D O mx kvs ((k0, u0) :: ovr) (rest ++ frs)) (H : HdL A.handled rest)
    (hmx : 1 ≤ mx) (hfull : (kvs.length : Int) = mx) (hk : valueAt kvs k = none) (ho : valueAt ((k0, u0) :: ovr) k = none) (hv0 : valueAt kvs k0 = some v0) (z1 : kvs.length ≤ 8) (z2 : ovr.length + 1 ≤ 8)
    (hQ : ∀ h' tk' frs', Tl hb [x, dx, D, O] l rest frs' → Fr hb L h' m → Cache prog w hb L h' x dx D O mx (without kvs k0 ++ [(k, v)]) (ovr ++ [(k, .none)]) (rest ++ frs') → Q .none { s with heap := h', toks := tk' }) :
    wpAny (model prog w) A (call (.ref 865) [.ref x, .int k t, v]) Q E s := by
  obtain ⟨X, T, hA, hf, hke, hdep⟩ := C
  obtain ⟨h1, h2, h3, h4, t1, t2, t3, t4, tc, tm, oD, oO, N, hD, hO⟩ := S
  have P0 := P
  obtain ⟨g1, g2, g3, loD, loO⟩ := P
  replace g1 := ltN g1
  replace g2 := ltN g2
  replace g3 := ltN g3
  have zl := without_len (nodup_of hD) hv0
  have zw := without_le (k := k0) kvs
  have hk' : valueAt (without kvs k0) k = none := by
    rw [valueAt_none] at hk ⊢
    exact fun hm => hk (List.Sublist.subset (List.Sublist.map _ (List.filter_sublist)) hm)
  have ho' : valueAt ovr k = none := by
    rw [valueAt_none] at ho ⊢
    exact fun hm => ho (List.mem_cons_of_mem _ hm)
  have zi : ((without kvs k0 ++ [(k, v)]).length : Int) = (without kvs k0).length + 1 := by rw [List.length_append]; rfl
  have e1 : stored (without kvs k0) k v = without kvs k0 ++ [(k, v)] := stored_new hk'
  have e2 : stored ovr k .none = ovr ++ [(k, .none)] := stored_new ho'
  k_steps
  exact hQ _ _ _ (by assumption) (by assumption) ⟨_, _, _, _, _, _, _, _, _, _, _, _, by rw [zi]; assumption, by rw [← e1]; assumption, by rw [← e2]; assumption⟩
end
end
section
section
variable {prog : Program} {w : World} {A : Around} {E : Value → Shared → Prop} {s : Shared} {L x dx D O : Addr} {hb : Heap} {m mg mb : Str → Option Value} {rest frs : Led} {p : Program} {loose : List Str} {mean : ExcName → Option Value} {l : FrL} {env : Env}
  {mx : Int} {kvs ovs : List (Int × Value)} {k : Int} {t : Tok} {Q : Value → Shared → Prop}
theorem setmiss_ok {v : Value} (C : Cx 16 w A hb L env l p loose mean mg mb) (P : Apt x dx D O) (F : Fr hb L s.heap m) (TL : Tl hb [x, dx, D, O] l rest frs) (S : Cache prog w hb L s.heap x dx D O mx kvs ovs (rest ++ frs)) (H : HdL A.handled rest)
    (ch : Coh mx kvs ovs) (hk : valueAt kvs k = none)
    (hQ : ∀ h' tk' frs', Tl hb [x, dx, D, O] l rest frs' → Fr hb L h' m → Cache prog w hb L h' x dx D O mx (setK mx kvs ovs k v) (setO mx kvs ovs k) (rest ++ frs') → Q .none { s with heap := h', toks := tk' }) :
    wpAny (model prog w) A (call (.ref 865) [.ref x, .int k t, v]) Q E s := by
  have ho := ch.lost hk
  have e1 := ch.ln
  have e2 := ch.le
  have e3 := ch.m1
  have e4 := ch.m4
  have C8 : Cx 8 w A hb L env l p loose mean mg mb := ⟨C.X, C.T, C.hA, C.hf, C.hke, by have := C.hdep; omega⟩
  by_cases hr : (kvs.length : Int) < mx
  · refine setroom_ok C8 P F TL S H ch.m1 hr hk ho (by omega) (by omega) ?_
    unfold setK setO at hQ
    rw [if_pos hr, if_pos hr] at hQ
    exact hQ
  · cases ovs with
    | nil => simp at e1; omega
    | cons q r =>
      obtain ⟨k0, u0⟩ := q
      obtain ⟨v0, hv0⟩ := ch.back (k := k0) (v := u0) (by rw [valueAt_cons, if_pos rfl])
      simp only [List.length_cons] at e1
      refine setfull_ok C P F TL S H ch.m1 (by omega) hk ho hv0 (by omega) (by omega) ?_
      unfold setK setO at hQ
      rw [if_neg hr, if_neg hr] at hQ
      exact hQ
end
end
section
local macro_rules | `(tactic| k_lt $h:ident) => `(tactic| (have k_tl := allLt_of $h; (simp only [AllLt, and_true] at k_tl); (repeat (replace k_tl := And.right k_tl)); replace $h := allLt_of $h; simp only [AllLt, and_true] at $h:ident))
local macro_rules | `(tactic| k_all) => `(tactic| first | exact Tl.apart (by assumption) |>.ne mem4_1 | exact Tl.apart (by assumption) |>.ne mem4_2 | exact Tl.apart (by assumption) |>.ne mem4_3 | exact Tl.apart (by assumption) |>.ne mem4_4 | exact allLt_ne (by assumption))
local macro_rules | `(tactic| k_room) => `(tactic| ((try simp only [depth_mark, depth_under_make, depth_under_kw, depth_in1, depth_deeper, depth_caller]); omega))
local macro_rules | `(tactic| walk_at "call ref") => `(tactic| (k_here; k_dflt (refine wpAny_call ?_; refine' enter ?k1 ?k2 ?k3 ?k4 ?k5 ?k6 ?k7 ?kA ?kF ?kK ?k8 ?k9 ?kR ?kB ?kL ?_ ?c2 ?c3 ?c4 ?c5; (case k1 => k_asm); (case k2 => k_asm); (case k3 => k_asm); (case k4 => k_asm); (case k5 => k_asm); (case k6 => repeat (first | exact TailAt.here | apply TailAt.cons)); (case k7 => exact four (by k_mem) (by k_mem) (by k_mem) (by k_mem)); (case kA => first | assumption | exact Around.frames_deeper (by assumption) | exact Around.frames_deeper (Around.frames_deeper (by assumption)) | exact Around.frames_deeper (Around.frames_deeper (Around.frames_deeper (by assumption)))); (case kF => first | assumption | rfl); (case kK => first | assumption | rfl); (case k8 => k_is); (case k9 => k_is); (case kR => k_room); (case kB => first | exact BindsTo.of_eq rfl | exact binds_K (by k_in) rfl (by k_is) rfl rfl rfl | fail "enter: no rule for these arguments"); (case kL => exact locs rfl); (case c5 => decide); (case c2 => exact rfl); (case c3 => exact rfl); (case c4 => exact rfl); k_whole; intro frs' L' h' TL' F' N'; (try dsimp only at N' ⊢); (try k_fold))))
local macro_rules | `(tactic| walk_at "LeaveM") => `(tactic| (k_dflt (first
  | (refine' leaveM1 ?k1 ?k2 ?k3 ?k4 ?k5 ?k6 ?k7 ?k8 ?_; (case k1 => assumption); (case k5 => assumption); (case k2 => first | assumption | rfl); (case k3 => assumption); (case k4 => assumption); (case k6 => k_mem); (case k7 => exact kept4 (by assumption) (by k_mem) (by k_mem) (by k_mem) (by k_mem)); (case k8 => (intro q hq; repeat (first | exact hq | refine List.mem_cons_of_mem _ ?_))); k_whole; intro frs' TL' F' N' lt')
  | (refine' leaveM ?k1 ?k2 ?k3 ?k4 ?k5 ?k6 ?_; (case k1 => assumption); (case k2 => first | assumption | rfl); (case k3 => assumption); (case k4 => assumption); (case k5 => exact kept4 (by assumption) (by k_mem) (by k_mem) (by k_mem) (by k_mem)); (case k6 => (intro q hq; repeat (first | exact hq | refine List.mem_cons_of_mem _ ?_))); k_whole; intro frs' TL' F' N')); (try simp only [List.cons_append, List.nil_append] at N'); (try dsimp only)))
local macro_rules | `(tactic| walk_at "compareOp In int ref") => `(tactic| (k_here; k_dflt (refine kda_in (knd := PySem.intKind _ _) (by k_asm) (by k_mem) (by k_asm) (by k_asm) (intKind_is _ _ _ _) _ (by first | assumption | exact isSome_of (by assumption) | exact Option.isSome_eq_false_iff.mpr (Option.isNone_iff_eq_none.mpr (by assumption)) | rfl) ?_)))
local macro_rules | `(tactic| walk_at "getMethod ref") => `(tactic| (k_here; (with_reducible show wpAny _ _ (getMethod (Value.ref _) (Str.ofString "pop") _) _ _ _); k_dflt (refine kob_method (knd := PySem.intKind _ _) PySem.F.slot_dict_pop PySem.F.type_dict_pop (by k_asm) (by k_mem) (by k_asm) ?_)))
local macro_rules | `(tactic| walk_at "getMethod ref") => `(tactic| (k_here; (with_reducible show wpAny _ _ (getMethod (Value.ref _) (Str.ofString "clear") _) _ _ _); k_dflt (refine kob_method (knd := PySem.intKind _ _) PySem.F.slot_dict_clear PySem.F.type_dict_clear (by k_asm) (by k_mem) (by k_asm) ?_)))
local macro_rules | `(tactic| walk_at "call builtin:dict.pop") => `(tactic| (k_here; k_dflt (first
  | (refine' kob_pop (knd := PySem.intKind _ _) (more := []) ?k1 ?k2 ?k3 ?k4 (intKind_is _ _ _ _) (.inl rfl) (by rfl) (PySem.F.args_dict_pop_2 _ _) ?k5 ?k6 ?_; (case k1 => k_asm); (case k2 => k_asm); (case k3 => k_updF); (case k4 => k_asm); (case k5 => assumption); (case k6 => rw [sizeLine_eq]; omega); intro h' o' F' N' hd'; (try dsimp only at N'))
  | (refine' pop_missing ?k0 ?k1 ?k2 ?k3 ?k4 ?k5 ?_; (case k1 => k_asm); (case k2 => k_mem); (case k3 => k_asm); (case k4 => k_asm); (case k5 => assumption); (case k0 => exact HdL.hd (by assumption) (fun q hq => (by assumption : News _ _ _ _) q (by (repeat (first | exact List.mem_append_left _ hq | refine List.mem_cons_of_mem _ ?_))) |>.1)); k_whole; intro h' e' x'))))
local macro_rules | `(tactic| walk_at "setItem ref int") => `(tactic| (k_here; k_dflt (refine' kda_set (knd := PySem.intKind _ _) ?k1 ?k2 ?k3 ?k4 (intKind_is _ _ _ _) ?k5 ?_; (case k1 => k_asm); (case k2 => k_asm); (case k3 => k_updF); (case k4 => k_asm); (case k5 => rw [sizeLine_eq]; (try simp only [List.length_append, List.length_cons, List.length_nil]); omega); intro h' o' F' N' hd'; (try dsimp only at N'))))
local macro_rules | `(tactic| walk_at "delItem ref int") => `(tactic| (k_here; k_dflt (refine' kob_del (knd := PySem.intKind _ _) ?k1 ?k2 ?k3 ?k4 (intKind_is _ _ _ _) ?k5 ?k6 ?_; (case k1 => k_asm); (case k2 => k_asm); (case k3 => k_updF); (case k4 => k_asm); (case k5 => first | assumption | exact isSome_of (by assumption)); (case k6 => rw [sizeLine_eq]; omega); intro h' o' F' N' hd'; (try dsimp only at N'))))
local macro_rules | `(tactic| walk_at "subscriptTail") => `(tactic| (k_here; (with_reducible show wpAny _ _ (subscriptTail _ _ (Value.ref _) (Value.int _ _)) _ _ _); k_dflt (first
  | (refine' kdt_tail (knd := PySem.intKind _ _) ?k1 ?k2 ?k3 (kdt_getItem (knd := PySem.intKind _ _) ?k1 ?k2 ?k3 (intKind_is _ _ _ _) ?k4 ?_); (case k1 => k_asm); (case k2 => k_mem); (case k3 => k_asm); (case k4 => assumption); k_whole)
  | (refine' tail_missing ?k0 ?k1 ?k2 ?k3 ?k4 ?k5 ?_; (case k0 => first | rfl | assumption); (case k1 => k_asm); (case k2 => k_mem); (case k3 => k_asm); (case k4 => k_asm); (case k5 => assumption); k_whole; intro h' e' x'))))
local macro_rules | `(tactic| walk_at "noteFrame ref") => `(tactic| (k_here; k_dflt (first
  | (refine' note_new ?k1 ?k2 ?k3 ?k4 ?k5 ?k6 ?k7 ?k8 ?_; (case k1 => assumption))
  | (refine' note_fly ?k1 ?k2 ?k3 ?k4 ?k5 ?k6 ?k7 ?k8 ?_; (case k1 => assumption))); (case k2 => assumption); (case k3 => assumption); (case k4 => assumption); (case k5 => first | assumption | exact Around.frames_deeper (by assumption) | exact Around.frames_deeper (Around.frames_deeper (by assumption)) | exact Around.frames_deeper (Around.frames_deeper (Around.frames_deeper (by assumption)))); (case k6 => exact kept4 (by assumption) (by k_mem) (by k_mem) (by k_mem) (by k_mem)); (case k7 => (intro q hq; repeat (first | exact hq | refine List.mem_cons_of_mem _ ?_))); (case k8 => rfl); k_whole; intro h' frs' TL' F' N' X'; (try simp only [List.cons_append, List.nil_append] at N' X')))
local macro_rules | `(tactic| walk_at "setFlight ref") => `(tactic| (k_here; k_dflt (refine' land_fly ?k1 ?k2 ?k3 ?_; (case k1 => assumption); (case k2 => assumption); (case k3 => assumption); k_whole; intro h' F' N' X')))
local macro_rules | `(tactic| walk_at "handleBy ref") => `(tactic| (k_here; k_dflt (first
  | (refine' handle_hit (T' := "KeyError") ?k1 ?k2 ?k3 ?k4 ?k5 ?k6 PyProof.Rows.Boot.«KeyError» ?k7 kr_isExc_KeyError kr_notTuple_KeyError ?k8 ?_ ?c1 ?c2 ?c3 ?c4; (case k1 => assumption); (case k2 => assumption); (case k3 => assumption); (case k4 => assumption); (case k5 => assumption); (case k6 => k_is); (case k7 => decide); (case k8 => rw [isSubtype_type]; kernel_rfl); (case c1 => rfl); (case c2 => rfl); (case c3 => decide); (case c4 => passes_own); k_whole)); intro h' oe' vs' F' N' hE' hv1' hv2'))
local macro_rules | `(tactic| walk_at "leaving ref") => `(tactic| (k_here; k_dflt (first
  | (refine' leave_new ?k1 ?k2 ?k3 ?k4 ?k9 ?k5 ?k6 ?k7 ?k8 ?_; (case k1 => assumption))
  | (refine' leave_fly ?k1 ?k2 ?k3 ?k4 ?k9 ?k5 ?k6 ?k7 ?k8 ?_; (case k1 => assumption))); (case k2 => assumption); (case k3 => assumption); (case k4 => assumption); (case k9 => first | assumption | rfl); (case k5 => first | assumption | exact Around.frames_deeper (by assumption) | exact Around.frames_deeper (Around.frames_deeper (by assumption)) | exact Around.frames_deeper (Around.frames_deeper (Around.frames_deeper (by assumption)))); (case k6 => exact kept4a (by k_mem) (by k_mem) (by k_mem) (by k_mem)); (case k7 => (intro q hq; repeat (first | exact hq | refine List.mem_cons_of_mem _ ?_))); (case k8 => rfl); k_whole; intro h' frs' TL' F' N' X'; (try simp only [List.cons_append, List.nil_append] at N' X'); (try dsimp only)))
local macro_rules | `(tactic| walk_at "delItem ref") => `(tactic| (k_here; (with_reducible show wpAny _ _ (delItem (Value.ref _) _) _ _ _); k_dflt (refine' del_inst ?k1 ?k2 ?k3 ?k4 ?k5 ?k6 ?_; (case k1 => k_asm); (case k2 => k_asm); (case k3 => k_inst); (case k4 => k_is); (case k5 => k_is); (case k6 => k_is); k_whole)))
local macro_rules | `(tactic| walk_at "WhlIf") => `(tactic| first | (refine WhlIf.yes (decide_eq_true (by omega)) ?_) | (refine WhlIf.no (decide_eq_false (by omega)) ?_))
local macro_rules | `(tactic| walk_at "delItem ref int") => `(tactic| (k_here; k_dflt (refine' del_missing ?k0 ?k1 ?k2 ?k3 ?k4 ?k5 ?_; (case k0 => first | rfl | assumption); (case k1 => k_asm); (case k2 => k_mem); (case k3 => k_asm); (case k4 => k_asm); (case k5 => assumption); k_whole; intro h' e' x')))
local macro_rules | `(tactic| walk_at "compareOp Is str ref") => `(tactic| refine is_str_ref ?_)
local macro_rules | `(tactic| walk_at "call ref") => `(tactic| (k_here; (with_reducible show wpAny _ _ (call (Value.ref 873) _) _ _ _); k_dflt (refine' delitem_ok ?k1 ?k2 ?k3 ?k4 ?k5 ?k6 ?k7 ?k8 ?k9 ?_; (case k2 => assumption); (case k3 => assumption); (case k4 => assumption); (case k1 => exact ⟨by assumption, by assumption, by (first | assumption | exact Around.frames_deeper (by assumption) | exact Around.frames_deeper (Around.frames_deeper (by assumption)) | exact Around.frames_deeper (Around.frames_deeper (Around.frames_deeper (by assumption)))), by (first | assumption | rfl), by (first | assumption | rfl), by k_room⟩); (case k5 => exact ⟨_, _, _, _, _, _, _, _, _, _, _, _, by (first | assumption | exact cb_drop (by assumption) (by intro q hq; repeat (first | exact hq | refine List.mem_cons_of_mem _ ?_))), by assumption, by assumption⟩); (case k6 => assumption); (case k7 => assumption); (case k8 => omega); (case k9 => omega); k_whole; intro h' tk' frs' TL' F' S'; obtain ⟨_, _, _, _, _, _, _, _, _, _, _, _, N', hD', hO'⟩ := S'; (try dsimp only))))
local macro_rules | `(tactic| walk_at "call ref") => `(tactic| (k_here; (with_reducible show wpAny _ _ (call (Value.ref 749) _) _ _ _); k_dflt (refine' contains_ok ?k1 ?k2 ?k3 ?k4 ?k5 ?_; (case k2 => assumption); (case k3 => assumption); (case k4 => assumption); (case k1 => exact ⟨by assumption, by assumption, by (first | assumption | exact Around.frames_deeper (by assumption) | exact Around.frames_deeper (Around.frames_deeper (by assumption)) | exact Around.frames_deeper (Around.frames_deeper (Around.frames_deeper (by assumption)))), by (first | assumption | rfl), by (first | assumption | rfl), by k_room⟩); (case k5 => exact ⟨_, _, _, _, _, _, _, _, _, _, _, _, by (first | assumption | exact cb_drop (by assumption) (by intro q hq; repeat (first | exact hq | refine List.mem_cons_of_mem _ ?_))), by assumption, by assumption⟩); k_whole; intro h' tk' frs' TL' F' S'; obtain ⟨_, _, _, _, _, _, _, _, _, _, _, _, N', hD', hO'⟩ := S'; (try dsimp only); (first | rw [isSome_of (by assumption)] | rw [Option.isSome_eq_false_iff.mpr (Option.isNone_iff_eq_none.mpr (by assumption))] | skip))))
local macro_rules | `(tactic| walk_at "call ref") => `(tactic| (k_here; (with_reducible show wpAny _ _ (call (Value.ref 857) _) _ _ _); k_dflt (refine' getitem_ok ?k1 ?k2 ?k3 ?k4 ?k5 ?k6 ?k7 ?k8 ?k9 ?_; (case k2 => assumption); (case k3 => assumption); (case k4 => assumption); (case k1 => exact ⟨by assumption, by assumption, by (first | assumption | exact Around.frames_deeper (by assumption) | exact Around.frames_deeper (Around.frames_deeper (by assumption)) | exact Around.frames_deeper (Around.frames_deeper (Around.frames_deeper (by assumption)))), by (first | assumption | rfl), by (first | assumption | rfl), by k_room⟩); (case k5 => exact ⟨_, _, _, _, _, _, _, _, _, _, _, _, by (first | assumption | exact cb_drop (by assumption) (by intro q hq; repeat (first | exact hq | refine List.mem_cons_of_mem _ ?_))), by assumption, by assumption⟩); (case k6 => assumption); (case k7 => assumption); (case k8 => omega); (case k9 => omega); k_whole; intro h' tk' frs' TL' F' S'; obtain ⟨_, _, _, _, _, _, _, _, _, _, _, _, N', hD', hO'⟩ := S'; (try dsimp only))))
local macro_rules | `(tactic| walk_at "call ref") => `(tactic| (k_here; (with_reducible show wpAny _ _ (call (Value.ref 865) _) _ _ _); k_dflt (first | (refine' sethit_ok ?k1 ?k2 ?k3 ?k4 ?k5 ?k6 ?k7 ?k8 ?k9 ?k10 ?_; (case k2 => assumption); (case k3 => assumption); (case k4 => assumption); (case k1 => exact ⟨by assumption, by assumption, by (first | assumption | exact Around.frames_deeper (by assumption) | exact Around.frames_deeper (Around.frames_deeper (by assumption)) | exact Around.frames_deeper (Around.frames_deeper (Around.frames_deeper (by assumption)))), by (first | assumption | rfl), by (first | assumption | rfl), by k_room⟩); (case k5 => exact ⟨_, _, _, _, _, _, _, _, _, _, _, _, by (first | assumption | exact cb_drop (by assumption) (by intro q hq; repeat (first | exact hq | refine List.mem_cons_of_mem _ ?_))), by assumption, by assumption⟩); (case k7 => assumption); (case k8 => assumption); (case k6 => omega); (case k9 => omega); (case k10 => omega); k_whole; intro h' tk' frs' TL' F' S'; obtain ⟨_, _, _, _, _, _, _, _, _, _, _, _, N', hD', hO'⟩ := S'; (try dsimp only)) | (refine' setmiss_ok ?k1 ?k2 ?k3 ?k4 ?k5 ?k6 ?k7 ?k8 ?_; (case k2 => assumption); (case k3 => assumption); (case k4 => assumption); (case k1 => exact ⟨by assumption, by assumption, by (first | assumption | exact Around.frames_deeper (by assumption) | exact Around.frames_deeper (Around.frames_deeper (by assumption)) | exact Around.frames_deeper (Around.frames_deeper (Around.frames_deeper (by assumption)))), by (first | assumption | rfl), by (first | assumption | rfl), by k_room⟩); (case k5 => exact ⟨_, _, _, _, _, _, _, _, _, _, _, _, by (first | assumption | exact cb_drop (by assumption) (by intro q hq; repeat (first | exact hq | refine List.mem_cons_of_mem _ ?_))), by assumption, by assumption⟩); (case k6 => assumption); (case k7 => assumption); (case k8 => assumption); k_whole; intro h' tk' frs' TL' F' S'; obtain ⟨_, _, _, _, _, _, _, _, _, _, _, _, N', hD', hO'⟩ := S'; (try dsimp only)))))
local macro_rules | `(tactic| walk_at "call builtin:dict.clear") => `(tactic| (k_here; k_dflt (refine' clear_ok ?k1 ?k2 ?k3 ?k4 ?k5 ?_; (case k1 => k_asm); (case k2 => k_asm); (case k3 => k_updF); (case k4 => k_asm); (case k5 => rw [sizeLine_eq]; omega); intro h' o' F' N' hd'; (try dsimp only at N'))))
section
variable {prog : Program} {w : World} {A : Around} {E : Value → Shared → Prop} {s : Shared} {L x dx D O : Addr} {hb : Heap} {m mg mb : Str → Option Value} {rest frs : Led} {p : Program} {loose : List Str} {mean : ExcName → Option Value} {l : FrL} {env : Env}
  {mx : Int} {kvs ovs : List (Int × Value)} {k : Int} {t : Tok} {Q : Value → Shared → Prop}
theorem deed_a_hit {vb : Int} {tv : Tok} {wv iv : Int} {tw ti : Tok} {u : Value} (C : Cx 26 w A hb L env l p loose mean mg mb) (P : Apt x dx D O) (F : Fr hb L s.heap m) (TL : Tl hb [x, dx, D, O] l rest frs) (S : Cache prog w hb L s.heap x dx D O mx kvs ovs (rest ++ frs)) (Hn : A.handled = none)
    (ch : Coh mx kvs ovs) (b : vb < 3) (hk : valueAt kvs k = some (.int iv ti)) (ho : valueAt ovs k = some u)
    (hQ : ∀ h' tk' frs', Tl hb [x, dx, D, O] l rest frs' → Fr hb L h' m → Cache prog w hb L h' x dx D O mx kvs (touch ovs k u) (rest ++ frs') → Q (.int iv ti) { s with heap := h', toks := tk' }) :
    wpAny (model prog w) A (call (.ref 906) [.ref x, .int vb tv, .int k t, .int wv tw]) Q E s := by
  obtain ⟨X, T, hA, hf, hke, hdep⟩ := C
  obtain ⟨h1, h2, h3, h4, t1, t2, t3, t4, tc, tm, oD, oO, N, hD, hO⟩ := S
  have P0 := P
  obtain ⟨g1, g2, g3, loD, loO⟩ := P
  replace g1 := ltN g1
  replace g2 := ltN g2
  replace g3 := ltN g3
  have H : HdL A.handled rest := .inl Hn
  have c1 := ch.ln
  have c2 := ch.le
  have c3 := ch.m1
  have c4 := ch.m4
  have z1 : kvs.length ≤ 8 := by omega
  have z2 : ovs.length ≤ 8 := by omega
  k_steps
  exact hQ _ _ _ (by assumption) (by assumption) ⟨_, _, _, _, _, _, _, _, _, _, _, _, by assumption, by assumption, by assumption⟩
theorem deed_a_miss {vb : Int} {tv : Tok} {wv : Int} {tw : Tok} (C : Cx 26 w A hb L env l p loose mean mg mb) (P : Apt x dx D O) (F : Fr hb L s.heap m) (TL : Tl hb [x, dx, D, O] l rest frs) (S : Cache prog w hb L s.heap x dx D O mx kvs ovs (rest ++ frs)) (Hn : A.handled = none)
    (ch : Coh mx kvs ovs) (b : vb < 3) (hk : valueAt kvs k = none)
    (hQ : ∀ h' tk' frs', Tl hb [x, dx, D, O] l rest frs' → Fr hb L h' m → Cache prog w hb L h' x dx D O mx (setK mx kvs ovs k (.int wv tw)) (setO mx kvs ovs k) (rest ++ frs') → Q (.int wv tw) { s with heap := h', toks := tk' }) :
    wpAny (model prog w) A (call (.ref 906) [.ref x, .int vb tv, .int k t, .int wv tw]) Q E s := by
  obtain ⟨X, T, hA, hf, hke, hdep⟩ := C
  obtain ⟨h1, h2, h3, h4, t1, t2, t3, t4, tc, tm, oD, oO, N, hD, hO⟩ := S
  have P0 := P
  obtain ⟨g1, g2, g3, loD, loO⟩ := P
  replace g1 := ltN g1
  replace g2 := ltN g2
  replace g3 := ltN g3
  have H : HdL A.handled rest := .inl Hn
  have c1 := ch.ln
  have c2 := ch.le
  have c3 := ch.m1
  have c4 := ch.m4
  have z1 : kvs.length ≤ 8 := by omega
  have z2 : ovs.length ≤ 8 := by omega
  k_steps
  exact hQ _ _ _ (by assumption) (by assumption) ⟨_, _, _, _, _, _, _, _, _, _, _, _, by assumption, by assumption, by assumption⟩
end
section
variable {prog : Program} {w : World} {A : Around} {E : Value → Shared → Prop} {s : Shared} {L x dx D O : Addr} {hb : Heap} {m mg mb : Str → Option Value} {rest frs : Led} {p : Program} {loose : List Str} {mean : ExcName → Option Value} {l : FrL} {env : Env}
  {mx : Int} {kvs ovs : List (Int × Value)} {k : Int} {t : Tok} {Q : Value → Shared → Prop}
theorem deed_c_hit {vb : Int} {tv : Tok} {wv iv : Int} {tw ti : Tok} {u : Value} (C : Cx 26 w A hb L env l p loose mean mg mb) (P : Apt x dx D O) (F : Fr hb L s.heap m) (TL : Tl hb [x, dx, D, O] l rest frs) (S : Cache prog w hb L s.heap x dx D O mx kvs ovs (rest ++ frs)) (Hn : A.handled = none)
    (ch : Coh mx kvs ovs) (b : 3 ≤ vb) (b2 : vb < 5) (hk : valueAt kvs k = some (.int iv ti)) (ho : valueAt ovs k = some u)
    (hQ : ∀ h' tk' frs', Tl hb [x, dx, D, O] l rest frs' → Fr hb L h' m → Cache prog w hb L h' x dx D O mx kvs (touch ovs k u) (rest ++ frs') → Q (.int iv ti) { s with heap := h', toks := tk' }) :
    wpAny (model prog w) A (call (.ref 906) [.ref x, .int vb tv, .int k t, .int wv tw]) Q E s := by
  obtain ⟨X, T, hA, hf, hke, hdep⟩ := C
  obtain ⟨h1, h2, h3, h4, t1, t2, t3, t4, tc, tm, oD, oO, N, hD, hO⟩ := S
  have P0 := P
  obtain ⟨g1, g2, g3, loD, loO⟩ := P
  replace g1 := ltN g1
  replace g2 := ltN g2
  replace g3 := ltN g3
  have H : HdL A.handled rest := .inl Hn
  have c1 := ch.ln
  have c2 := ch.le
  have c3 := ch.m1
  have c4 := ch.m4
  have z1 : kvs.length ≤ 8 := by omega
  have z2 : ovs.length ≤ 8 := by omega
  k_steps
  exact hQ _ _ _ (by assumption) (by assumption) ⟨_, _, _, _, _, _, _, _, _, _, _, _, by assumption, by assumption, by assumption⟩
theorem deed_e_hit {vb : Int} {tv : Tok} {wv iv : Int} {tw ti : Tok} {u : Value} (C : Cx 26 w A hb L env l p loose mean mg mb) (P : Apt x dx D O) (F : Fr hb L s.heap m) (TL : Tl hb [x, dx, D, O] l rest frs) (S : Cache prog w hb L s.heap x dx D O mx kvs ovs (rest ++ frs)) (Hn : A.handled = none)
    (ch : Coh mx kvs ovs) (b : 5 ≤ vb) (b2 : vb < 7) (hk : valueAt kvs k = some (.int iv ti)) (ho : valueAt ovs k = some u)
    (hQ : ∀ h' tk' frs', Tl hb [x, dx, D, O] l rest frs' → Fr hb L h' m → Cache prog w hb L h' x dx D O mx kvs (touch ovs k u) (rest ++ frs') → Q (.int iv ti) { s with heap := h', toks := tk' }) :
    wpAny (model prog w) A (call (.ref 906) [.ref x, .int vb tv, .int k t, .int wv tw]) Q E s := by
  obtain ⟨X, T, hA, hf, hke, hdep⟩ := C
  obtain ⟨h1, h2, h3, h4, t1, t2, t3, t4, tc, tm, oD, oO, N, hD, hO⟩ := S
  have P0 := P
  obtain ⟨g1, g2, g3, loD, loO⟩ := P
  replace g1 := ltN g1
  replace g2 := ltN g2
  replace g3 := ltN g3
  have H : HdL A.handled rest := .inl Hn
  have c1 := ch.ln
  have c2 := ch.le
  have c3 := ch.m1
  have c4 := ch.m4
  have z1 : kvs.length ≤ 8 := by omega
  have z2 : ovs.length ≤ 8 := by omega
  k_steps
  exact hQ _ _ _ (by assumption) (by assumption) ⟨_, _, _, _, _, _, _, _, _, _, _, _, by assumption, by assumption, by assumption⟩
theorem deed_e_miss {vb : Int} {tv : Tok} {wv : Int} {tw : Tok} (C : Cx 26 w A hb L env l p loose mean mg mb) (P : Apt x dx D O) (F : Fr hb L s.heap m) (TL : Tl hb [x, dx, D, O] l rest frs) (S : Cache prog w hb L s.heap x dx D O mx kvs ovs (rest ++ frs)) (Hn : A.handled = none)
    (ch : Coh mx kvs ovs) (b : 5 ≤ vb) (b2 : vb < 7) (hk : valueAt kvs k = none)
    (hQ : ∀ h' tk' frs', Tl hb [x, dx, D, O] l rest frs' → Fr hb L h' m → Cache prog w hb L h' x dx D O mx (setK mx kvs ovs k (.int wv tw)) (setO mx kvs ovs k) (rest ++ frs') → Q (.int wv tw) { s with heap := h', toks := tk' }) :
    wpAny (model prog w) A (call (.ref 906) [.ref x, .int vb tv, .int k t, .int wv tw]) Q E s := by
  obtain ⟨X, T, hA, hf, hke, hdep⟩ := C
  obtain ⟨h1, h2, h3, h4, t1, t2, t3, t4, tc, tm, oD, oO, N, hD, hO⟩ := S
  have P0 := P
  obtain ⟨g1, g2, g3, loD, loO⟩ := P
  replace g1 := ltN g1
  replace g2 := ltN g2
  replace g3 := ltN g3
  have H : HdL A.handled rest := .inl Hn
  have c1 := ch.ln
  have c2 := ch.le
  have c3 := ch.m1
  have c4 := ch.m4
  have z1 : kvs.length ≤ 8 := by omega
  have z2 : ovs.length ≤ 8 := by omega
  k_steps
  exact hQ _ _ _ (by assumption) (by assumption) ⟨_, _, _, _, _, _, _, _, _, _, _, _, by assumption, by assumption, by assumption⟩
end
section
variable {prog : Program} {w : World} {A : Around} {E : Value → Shared → Prop} {s : Shared} {L x dx D O : Addr} {hb : Heap} {m mg mb : Str → Option Value} {rest frs : Led} {p : Program} {loose : List Str} {mean : ExcName → Option Value} {l : FrL} {env : Env}
  {mx : Int} {kvs ovs : List (Int × Value)} {k : Int} {t : Tok} {Q : Value → Shared → Prop}
theorem deed_g_hit {vb : Int} {tv : Tok} {wv iv : Int} {tw ti : Tok} {u : Value} (C : Cx 26 w A hb L env l p loose mean mg mb) (P : Apt x dx D O) (F : Fr hb L s.heap m) (TL : Tl hb [x, dx, D, O] l rest frs) (S : Cache prog w hb L s.heap x dx D O mx kvs ovs (rest ++ frs)) (Hn : A.handled = none)
    (ch : Coh mx kvs ovs) (b : vb = 7) (hk : valueAt kvs k = some (.int iv ti)) (ho : valueAt ovs k = some u)
    (hQ : ∀ h' tk' frs', Tl hb [x, dx, D, O] l rest frs' → Fr hb L h' m → Cache prog w hb L h' x dx D O mx (stored kvs k (.int wv tw)) (touch ovs k u) (rest ++ frs') → Q (.int wv tw) { s with heap := h', toks := tk' }) :
    wpAny (model prog w) A (call (.ref 906) [.ref x, .int vb tv, .int k t, .int wv tw]) Q E s := by
  subst b
  obtain ⟨X, T, hA, hf, hke, hdep⟩ := C
  obtain ⟨h1, h2, h3, h4, t1, t2, t3, t4, tc, tm, oD, oO, N, hD, hO⟩ := S
  have P0 := P
  obtain ⟨g1, g2, g3, loD, loO⟩ := P
  replace g1 := ltN g1
  replace g2 := ltN g2
  replace g3 := ltN g3
  have H : HdL A.handled rest := .inl Hn
  have c1 := ch.ln
  have c2 := ch.le
  have c3 := ch.m1
  have c4 := ch.m4
  have z1 : kvs.length ≤ 8 := by omega
  have z2 : ovs.length ≤ 8 := by omega
  k_steps
  exact hQ _ _ _ (by assumption) (by assumption) ⟨_, _, _, _, _, _, _, _, _, _, _, _, by assumption, by assumption, by assumption⟩
theorem deed_g_miss {vb : Int} {tv : Tok} {wv : Int} {tw : Tok} (C : Cx 26 w A hb L env l p loose mean mg mb) (P : Apt x dx D O) (F : Fr hb L s.heap m) (TL : Tl hb [x, dx, D, O] l rest frs) (S : Cache prog w hb L s.heap x dx D O mx kvs ovs (rest ++ frs)) (Hn : A.handled = none)
    (ch : Coh mx kvs ovs) (b : vb = 7) (hk : valueAt kvs k = none)
    (hQ : ∀ h' tk' frs', Tl hb [x, dx, D, O] l rest frs' → Fr hb L h' m → Cache prog w hb L h' x dx D O mx (setK mx kvs ovs k (.int wv tw)) (setO mx kvs ovs k) (rest ++ frs') → Q (.int wv tw) { s with heap := h', toks := tk' }) :
    wpAny (model prog w) A (call (.ref 906) [.ref x, .int vb tv, .int k t, .int wv tw]) Q E s := by
  subst b
  obtain ⟨X, T, hA, hf, hke, hdep⟩ := C
  obtain ⟨h1, h2, h3, h4, t1, t2, t3, t4, tc, tm, oD, oO, N, hD, hO⟩ := S
  have P0 := P
  obtain ⟨g1, g2, g3, loD, loO⟩ := P
  replace g1 := ltN g1
  replace g2 := ltN g2
  replace g3 := ltN g3
  have H : HdL A.handled rest := .inl Hn
  have c1 := ch.ln
  have c2 := ch.le
  have c3 := ch.m1
  have c4 := ch.m4
  have z1 : kvs.length ≤ 8 := by omega
  have z2 : ovs.length ≤ 8 := by omega
  k_steps
  exact hQ _ _ _ (by assumption) (by assumption) ⟨_, _, _, _, _, _, _, _, _, _, _, _, by assumption, by assumption, by assumption⟩
theorem deed_i_hit {vb : Int} {tv : Tok} {wv iv : Int} {tw ti : Tok} {u : Value} (C : Cx 26 w A hb L env l p loose mean mg mb) (P : Apt x dx D O) (F : Fr hb L s.heap m) (TL : Tl hb [x, dx, D, O] l rest frs) (S : Cache prog w hb L s.heap x dx D O mx kvs ovs (rest ++ frs)) (Hn : A.handled = none)
    (ch : Coh mx kvs ovs) (b : vb = 8) (hk : valueAt kvs k = some (.int iv ti)) (ho : valueAt ovs k = some u)
    (hQ : ∀ h' tk' frs' tr, Tl hb [x, dx, D, O] l rest frs' → Fr hb L h' m → Cache prog w hb L h' x dx D O mx (without kvs k) (without ovs k) (rest ++ frs') → Q (.str (Str.ofString "gone") tr) { s with heap := h', toks := tk' }) :
    wpAny (model prog w) A (call (.ref 906) [.ref x, .int vb tv, .int k t, .int wv tw]) Q E s := by
  subst b
  obtain ⟨X, T, hA, hf, hke, hdep⟩ := C
  obtain ⟨h1, h2, h3, h4, t1, t2, t3, t4, tc, tm, oD, oO, N, hD, hO⟩ := S
  have P0 := P
  obtain ⟨g1, g2, g3, loD, loO⟩ := P
  replace g1 := ltN g1
  replace g2 := ltN g2
  replace g3 := ltN g3
  have H : HdL A.handled rest := .inl Hn
  have c1 := ch.ln
  have c2 := ch.le
  have c3 := ch.m1
  have c4 := ch.m4
  have z1 : kvs.length ≤ 8 := by omega
  have z2 : ovs.length ≤ 8 := by omega
  k_steps
  exact hQ _ _ _ _ (by assumption) (by assumption) ⟨_, _, _, _, _, _, _, _, _, _, _, _, by assumption, by assumption, by assumption⟩
end
section
variable {prog : Program} {w : World} {A : Around} {E : Value → Shared → Prop} {s : Shared} {L x dx D O : Addr} {hb : Heap} {m mg mb : Str → Option Value} {rest frs : Led} {p : Program} {loose : List Str} {mean : ExcName → Option Value} {l : FrL} {env : Env}
  {mx : Int} {kvs ovs : List (Int × Value)} {k : Int} {t : Tok} {Q : Value → Shared → Prop}
theorem deed_i_miss {vb : Int} {tv : Tok} {wv : Int} {tw : Tok} (C : Cx 26 w A hb L env l p loose mean mg mb) (P : Apt x dx D O) (F : Fr hb L s.heap m) (TL : Tl hb [x, dx, D, O] l rest frs) (S : Cache prog w hb L s.heap x dx D O mx kvs ovs (rest ++ frs)) (Hn : A.handled = none)
    (ch : Coh mx kvs ovs) (b : vb = 8) (hk : valueAt kvs k = none)
    (hQ : ∀ h' tk' frs' tr, Tl hb [x, dx, D, O] l rest frs' → Fr hb L h' m → Cache prog w hb L h' x dx D O mx kvs ovs (rest ++ frs') → Q (.str (Str.ofString "lost") tr) { s with heap := h', toks := tk' }) :
    wpAny (model prog w) A (call (.ref 906) [.ref x, .int vb tv, (.int k t), .int wv tw]) Q E s := by
  subst b
  obtain ⟨X, T, hA, hf, hke, hdep⟩ := C
  obtain ⟨h1, h2, h3, h4, t1, t2, t3, t4, tc, tm, oD, oO, N, hD, hO⟩ := S
  have P0 := P
  obtain ⟨g1, g2, g3, loD, loO⟩ := P
  replace g1 := ltN g1
  replace g2 := ltN g2
  replace g3 := ltN g3
  have H : HdL A.handled rest := .inl Hn
  have c1 := ch.ln
  have c2 := ch.le
  have c3 := ch.m1
  have c4 := ch.m4
  have z1 : kvs.length ≤ 8 := by omega
  have z2 : ovs.length ≤ 8 := by omega
  k_steps
  exact hQ _ _ _ _ (by assumption) (by assumption) ⟨_, _, _, _, _, _, _, _, _, _, _, _, by assumption, by assumption, by assumption⟩
end
section
variable {prog : Program} {w : World} {A : Around} {E : Value → Shared → Prop} {s : Shared} {L x dx D O : Addr} {hb : Heap} {m mg mb : Str → Option Value} {rest frs : Led} {p : Program} {loose : List Str} {mean : ExcName → Option Value} {l : FrL} {env : Env}
  {mx : Int} {kvs ovs : List (Int × Value)} {k : Int} {t : Tok} {Q : Value → Shared → Prop}
theorem deed_k_hit {vb : Int} {tv : Tok} {wv iv : Int} {tw ti : Tok} {u : Value} (C : Cx 26 w A hb L env l p loose mean mg mb) (P : Apt x dx D O) (F : Fr hb L s.heap m) (TL : Tl hb [x, dx, D, O] l rest frs) (S : Cache prog w hb L s.heap x dx D O mx kvs ovs (rest ++ frs)) (Hn : A.handled = none)
    (ch : Coh mx kvs ovs) (b : vb = 9) (hk : valueAt kvs k = some (.int iv ti)) (ho : valueAt ovs k = some u)
    (hQ : ∀ h' tk' frs', Tl hb [x, dx, D, O] l rest frs' → Fr hb L h' m → Cache prog w hb L h' x dx D O mx (without kvs k) (without ovs k) (rest ++ frs') → Q (.int iv ti) { s with heap := h', toks := tk' }) :
    wpAny (model prog w) A (call (.ref 906) [.ref x, .int vb tv, (.int k t), .int wv tw]) Q E s := by
  subst b
  obtain ⟨X, T, hA, hf, hke, hdep⟩ := C
  obtain ⟨h1, h2, h3, h4, t1, t2, t3, t4, tc, tm, oD, oO, N, hD, hO⟩ := S
  have P0 := P
  obtain ⟨g1, g2, g3, loD, loO⟩ := P
  replace g1 := ltN g1
  replace g2 := ltN g2
  replace g3 := ltN g3
  have H : HdL A.handled rest := .inl Hn
  have c1 := ch.ln
  have c2 := ch.le
  have c3 := ch.m1
  have c4 := ch.m4
  have z1 : kvs.length ≤ 8 := by omega
  have z2 : ovs.length ≤ 8 := by omega
  have hto : valueAt (touch ovs k u) k = some u := touch_at
  have hno := nodup_of hO
  have ztl := touch_len (u := u) hno ho
  have zt : (touch ovs k u).length ≤ 8 := by omega
  k_steps
  exact hQ _ _ _ (by assumption) (by assumption) ⟨_, _, _, _, _, _, _, _, _, _, _, _, by assumption, by assumption, by rw [← touch_without (u := u)]; assumption⟩
theorem deed_k_miss {vb : Int} {tv : Tok} {wv : Int} {tw : Tok} (C : Cx 26 w A hb L env l p loose mean mg mb) (P : Apt x dx D O) (F : Fr hb L s.heap m) (TL : Tl hb [x, dx, D, O] l rest frs) (S : Cache prog w hb L s.heap x dx D O mx kvs ovs (rest ++ frs)) (Hn : A.handled = none)
    (ch : Coh mx kvs ovs) (b : vb = 9) (hk : valueAt kvs k = none)
    (hQ : ∀ h' tk' frs' tr, Tl hb [x, dx, D, O] l rest frs' → Fr hb L h' m → Cache prog w hb L h' x dx D O mx kvs ovs (rest ++ frs') → Q (.str (Str.ofString "none") tr) { s with heap := h', toks := tk' }) :
    wpAny (model prog w) A (call (.ref 906) [.ref x, .int vb tv, (.int k t), .int wv tw]) Q E s := by
  subst b
  obtain ⟨X, T, hA, hf, hke, hdep⟩ := C
  obtain ⟨h1, h2, h3, h4, t1, t2, t3, t4, tc, tm, oD, oO, N, hD, hO⟩ := S
  have P0 := P
  obtain ⟨g1, g2, g3, loD, loO⟩ := P
  replace g1 := ltN g1
  replace g2 := ltN g2
  replace g3 := ltN g3
  have H : HdL A.handled rest := .inl Hn
  have c1 := ch.ln
  have c2 := ch.le
  have c3 := ch.m1
  have c4 := ch.m4
  have z1 : kvs.length ≤ 8 := by omega
  have z2 : ovs.length ≤ 8 := by omega
  k_steps
  exact hQ _ _ _ _ (by assumption) (by assumption) ⟨_, _, _, _, _, _, _, _, _, _, _, _, by assumption, by assumption, by assumption⟩
end
end
section
local macro_rules | `(tactic| k_lt $h:ident) => `(tactic| (have k_tl := allLt_of $h; (simp only [AllLt, and_true] at k_tl); (repeat (replace k_tl := And.right k_tl)); replace $h := allLt_of $h; simp only [AllLt, and_true] at $h:ident))
local macro_rules | `(tactic| k_all) => `(tactic| first | exact Tl.apart (by assumption) |>.ne mem4_1 | exact Tl.apart (by assumption) |>.ne mem4_2 | exact Tl.apart (by assumption) |>.ne mem4_3 | exact Tl.apart (by assumption) |>.ne mem4_4 | exact allLt_ne (by assumption))
local macro_rules | `(tactic| k_room) => `(tactic| ((try simp only [depth_mark, depth_under_make, depth_under_kw, depth_in1, depth_deeper, depth_caller]); omega))
local macro_rules | `(tactic| walk_at "call ref") => `(tactic| (k_here; k_dflt (refine wpAny_call ?_; refine' enter ?k1 ?k2 ?k3 ?k4 ?k5 ?k6 ?k7 ?kA ?kF ?kK ?k8 ?k9 ?kR ?kB ?kL ?_ ?c2 ?c3 ?c4 ?c5; (case k1 => k_asm); (case k2 => k_asm); (case k3 => k_asm); (case k4 => k_asm); (case k5 => k_asm); (case k6 => repeat (first | exact TailAt.here | apply TailAt.cons)); (case k7 => exact four (by k_mem) (by k_mem) (by k_mem) (by k_mem)); (case kA => first | assumption | exact Around.frames_deeper (by assumption) | exact Around.frames_deeper (Around.frames_deeper (by assumption)) | exact Around.frames_deeper (Around.frames_deeper (Around.frames_deeper (by assumption)))); (case kF => first | assumption | rfl); (case kK => first | assumption | rfl); (case k8 => k_is); (case k9 => k_is); (case kR => k_room); (case kB => first | exact BindsTo.of_eq rfl | exact binds_K (by k_in) rfl (by k_is) rfl rfl rfl | fail "enter: no rule for these arguments"); (case kL => exact locs rfl); (case c5 => decide); (case c2 => exact rfl); (case c3 => exact rfl); (case c4 => exact rfl); k_whole; intro frs' L' h' TL' F' N'; (try dsimp only at N' ⊢); (try k_fold))))
local macro_rules | `(tactic| walk_at "LeaveM") => `(tactic| (k_dflt (first
  | (refine' leaveM1 ?k1 ?k2 ?k3 ?k4 ?k5 ?k6 ?k7 ?k8 ?_; (case k1 => assumption); (case k5 => assumption); (case k2 => first | assumption | rfl); (case k3 => assumption); (case k4 => assumption); (case k6 => k_mem); (case k7 => exact kept4 (by assumption) (by k_mem) (by k_mem) (by k_mem) (by k_mem)); (case k8 => (intro q hq; repeat (first | exact hq | refine List.mem_cons_of_mem _ ?_))); k_whole; intro frs' TL' F' N' lt')
  | (refine' leaveM ?k1 ?k2 ?k3 ?k4 ?k5 ?k6 ?_; (case k1 => assumption); (case k2 => first | assumption | rfl); (case k3 => assumption); (case k4 => assumption); (case k5 => exact kept4 (by assumption) (by k_mem) (by k_mem) (by k_mem) (by k_mem)); (case k6 => (intro q hq; repeat (first | exact hq | refine List.mem_cons_of_mem _ ?_))); k_whole; intro frs' TL' F' N')); (try simp only [List.cons_append, List.nil_append] at N'); (try dsimp only)))
local macro_rules | `(tactic| walk_at "compareOp In int ref") => `(tactic| (k_here; k_dflt (refine kda_in (knd := PySem.intKind _ _) (by k_asm) (by k_mem) (by k_asm) (by k_asm) (intKind_is _ _ _ _) _ (by first | assumption | exact isSome_of (by assumption) | exact Option.isSome_eq_false_iff.mpr (Option.isNone_iff_eq_none.mpr (by assumption)) | rfl) ?_)))
local macro_rules | `(tactic| walk_at "getMethod ref") => `(tactic| (k_here; (with_reducible show wpAny _ _ (getMethod (Value.ref _) (Str.ofString "pop") _) _ _ _); k_dflt (refine kob_method (knd := PySem.intKind _ _) PySem.F.slot_dict_pop PySem.F.type_dict_pop (by k_asm) (by k_mem) (by k_asm) ?_)))
local macro_rules | `(tactic| walk_at "getMethod ref") => `(tactic| (k_here; (with_reducible show wpAny _ _ (getMethod (Value.ref _) (Str.ofString "clear") _) _ _ _); k_dflt (refine kob_method (knd := PySem.intKind _ _) PySem.F.slot_dict_clear PySem.F.type_dict_clear (by k_asm) (by k_mem) (by k_asm) ?_)))
local macro_rules | `(tactic| walk_at "call builtin:dict.pop") => `(tactic| (k_here; k_dflt (first
  | (refine' kob_pop (knd := PySem.intKind _ _) (more := []) ?k1 ?k2 ?k3 ?k4 (intKind_is _ _ _ _) (.inl rfl) (by rfl) (PySem.F.args_dict_pop_2 _ _) ?k5 ?k6 ?_; (case k1 => k_asm); (case k2 => k_asm); (case k3 => k_updF); (case k4 => k_asm); (case k5 => assumption); (case k6 => rw [sizeLine_eq]; omega); intro h' o' F' N' hd'; (try dsimp only at N'))
  | (refine' pop_missing ?k0 ?k1 ?k2 ?k3 ?k4 ?k5 ?_; (case k1 => k_asm); (case k2 => k_mem); (case k3 => k_asm); (case k4 => k_asm); (case k5 => assumption); (case k0 => exact HdL.hd (by assumption) (fun q hq => (by assumption : News _ _ _ _) q (by (repeat (first | exact List.mem_append_left _ hq | refine List.mem_cons_of_mem _ ?_))) |>.1)); k_whole; intro h' e' x'))))
local macro_rules | `(tactic| walk_at "setItem ref int") => `(tactic| (k_here; k_dflt (refine' kda_set (knd := PySem.intKind _ _) ?k1 ?k2 ?k3 ?k4 (intKind_is _ _ _ _) ?k5 ?_; (case k1 => k_asm); (case k2 => k_asm); (case k3 => k_updF); (case k4 => k_asm); (case k5 => rw [sizeLine_eq]; (try simp only [List.length_append, List.length_cons, List.length_nil]); omega); intro h' o' F' N' hd'; (try dsimp only at N'))))
local macro_rules | `(tactic| walk_at "delItem ref int") => `(tactic| (k_here; k_dflt (refine' kob_del (knd := PySem.intKind _ _) ?k1 ?k2 ?k3 ?k4 (intKind_is _ _ _ _) ?k5 ?k6 ?_; (case k1 => k_asm); (case k2 => k_asm); (case k3 => k_updF); (case k4 => k_asm); (case k5 => first | assumption | exact isSome_of (by assumption)); (case k6 => rw [sizeLine_eq]; omega); intro h' o' F' N' hd'; (try dsimp only at N'))))
local macro_rules | `(tactic| walk_at "subscriptTail") => `(tactic| (k_here; (with_reducible show wpAny _ _ (subscriptTail _ _ (Value.ref _) (Value.int _ _)) _ _ _); k_dflt (first
  | (refine' kdt_tail (knd := PySem.intKind _ _) ?k1 ?k2 ?k3 (kdt_getItem (knd := PySem.intKind _ _) ?k1 ?k2 ?k3 (intKind_is _ _ _ _) ?k4 ?_); (case k1 => k_asm); (case k2 => k_mem); (case k3 => k_asm); (case k4 => assumption); k_whole)
  | (refine' tail_missing ?k0 ?k1 ?k2 ?k3 ?k4 ?k5 ?_; (case k0 => first | rfl | assumption); (case k1 => k_asm); (case k2 => k_mem); (case k3 => k_asm); (case k4 => k_asm); (case k5 => assumption); k_whole; intro h' e' x'))))
local macro_rules | `(tactic| walk_at "noteFrame ref") => `(tactic| (k_here; k_dflt (first
  | (refine' note_new ?k1 ?k2 ?k3 ?k4 ?k5 ?k6 ?k7 ?k8 ?_; (case k1 => assumption))
  | (refine' note_fly ?k1 ?k2 ?k3 ?k4 ?k5 ?k6 ?k7 ?k8 ?_; (case k1 => assumption))); (case k2 => assumption); (case k3 => assumption); (case k4 => assumption); (case k5 => first | assumption | exact Around.frames_deeper (by assumption) | exact Around.frames_deeper (Around.frames_deeper (by assumption)) | exact Around.frames_deeper (Around.frames_deeper (Around.frames_deeper (by assumption)))); (case k6 => exact kept4 (by assumption) (by k_mem) (by k_mem) (by k_mem) (by k_mem)); (case k7 => (intro q hq; repeat (first | exact hq | refine List.mem_cons_of_mem _ ?_))); (case k8 => rfl); k_whole; intro h' frs' TL' F' N' X'; (try simp only [List.cons_append, List.nil_append] at N' X')))
local macro_rules | `(tactic| walk_at "setFlight ref") => `(tactic| (k_here; k_dflt (refine' land_fly ?k1 ?k2 ?k3 ?_; (case k1 => assumption); (case k2 => assumption); (case k3 => assumption); k_whole; intro h' F' N' X')))
local macro_rules | `(tactic| walk_at "handleBy ref") => `(tactic| (k_here; k_dflt (first
  | (refine' handle_hit (T' := "KeyError") ?k1 ?k2 ?k3 ?k4 ?k5 ?k6 PyProof.Rows.Boot.«KeyError» ?k7 kr_isExc_KeyError kr_notTuple_KeyError ?k8 ?_ ?c1 ?c2 ?c3 ?c4; (case k1 => assumption); (case k2 => assumption); (case k3 => assumption); (case k4 => assumption); (case k5 => assumption); (case k6 => k_is); (case k7 => decide); (case k8 => rw [isSubtype_type]; kernel_rfl); (case c1 => rfl); (case c2 => rfl); (case c3 => decide); (case c4 => passes_own); k_whole)); intro h' oe' vs' F' N' hE' hv1' hv2'))
local macro_rules | `(tactic| walk_at "leaving ref") => `(tactic| (k_here; k_dflt (first
  | (refine' leave_new ?k1 ?k2 ?k3 ?k4 ?k9 ?k5 ?k6 ?k7 ?k8 ?_; (case k1 => assumption))
  | (refine' leave_fly ?k1 ?k2 ?k3 ?k4 ?k9 ?k5 ?k6 ?k7 ?k8 ?_; (case k1 => assumption))); (case k2 => assumption); (case k3 => assumption); (case k4 => assumption); (case k9 => first | assumption | rfl); (case k5 => first | assumption | exact Around.frames_deeper (by assumption) | exact Around.frames_deeper (Around.frames_deeper (by assumption)) | exact Around.frames_deeper (Around.frames_deeper (Around.frames_deeper (by assumption)))); (case k6 => exact kept4a (by k_mem) (by k_mem) (by k_mem) (by k_mem)); (case k7 => (intro q hq; repeat (first | exact hq | refine List.mem_cons_of_mem _ ?_))); (case k8 => rfl); k_whole; intro h' frs' TL' F' N' X'; (try simp only [List.cons_append, List.nil_append] at N' X'); (try dsimp only)))
local macro_rules | `(tactic| walk_at "delItem ref") => `(tactic| (k_here; (with_reducible show wpAny _ _ (delItem (Value.ref _) _) _ _ _); k_dflt (refine' del_inst ?k1 ?k2 ?k3 ?k4 ?k5 ?k6 ?_; (case k1 => k_asm); (case k2 => k_asm); (case k3 => k_inst); (case k4 => k_is); (case k5 => k_is); (case k6 => k_is); k_whole)))
local macro_rules | `(tactic| walk_at "WhlIf") => `(tactic| first | (refine WhlIf.yes (decide_eq_true (by omega)) ?_) | (refine WhlIf.no (decide_eq_false (by omega)) ?_))
local macro_rules | `(tactic| walk_at "delItem ref int") => `(tactic| (k_here; k_dflt (refine' del_missing ?k0 ?k1 ?k2 ?k3 ?k4 ?k5 ?_; (case k0 => first | rfl | assumption); (case k1 => k_asm); (case k2 => k_mem); (case k3 => k_asm); (case k4 => k_asm); (case k5 => assumption); k_whole; intro h' e' x')))
local macro_rules | `(tactic| walk_at "compareOp Is str ref") => `(tactic| refine is_str_ref ?_)
local macro_rules | `(tactic| walk_at "call ref") => `(tactic| (k_here; (with_reducible show wpAny _ _ (call (Value.ref 873) _) _ _ _); k_dflt (refine' delitem_ok ?k1 ?k2 ?k3 ?k4 ?k5 ?k6 ?k7 ?k8 ?k9 ?_; (case k2 => assumption); (case k3 => assumption); (case k4 => assumption); (case k1 => exact ⟨by assumption, by assumption, by (first | assumption | exact Around.frames_deeper (by assumption) | exact Around.frames_deeper (Around.frames_deeper (by assumption)) | exact Around.frames_deeper (Around.frames_deeper (Around.frames_deeper (by assumption)))), by (first | assumption | rfl), by (first | assumption | rfl), by k_room⟩); (case k5 => exact ⟨_, _, _, _, _, _, _, _, _, _, _, _, by (first | assumption | exact cb_drop (by assumption) (by intro q hq; repeat (first | exact hq | refine List.mem_cons_of_mem _ ?_))), by assumption, by assumption⟩); (case k6 => assumption); (case k7 => assumption); (case k8 => omega); (case k9 => omega); k_whole; intro h' tk' frs' TL' F' S'; obtain ⟨_, _, _, _, _, _, _, _, _, _, _, _, N', hD', hO'⟩ := S'; (try dsimp only))))
local macro_rules | `(tactic| walk_at "call ref") => `(tactic| (k_here; (with_reducible show wpAny _ _ (call (Value.ref 880) _) _ _ _); k_dflt (refine' popitem_ok ?k1 ?k2 ?k3 ?k4 ?k5 ?k6 ?k7 ?k8 ?_; (case k2 => assumption); (case k3 => assumption); (case k4 => assumption); (case k1 => exact ⟨by assumption, by assumption, by (first | assumption | exact Around.frames_deeper (by assumption) | exact Around.frames_deeper (Around.frames_deeper (by assumption)) | exact Around.frames_deeper (Around.frames_deeper (Around.frames_deeper (by assumption)))), by (first | assumption | rfl), by (first | assumption | rfl), by k_room⟩); (case k5 => exact ⟨_, _, _, _, _, _, _, _, _, _, _, _, by (first | assumption | exact cb_drop (by assumption) (by intro q hq; repeat (first | exact hq | refine List.mem_cons_of_mem _ ?_))), by assumption, by assumption⟩); (case k6 => assumption); (case k7 => omega); (case k8 => omega); k_whole; intro h' tk' frs' tp' t0' n' TL' F' S' tl' to'; replace to' := ltN to'; obtain ⟨_, _, _, _, _, _, _, _, _, _, _, _, N', hD', hO'⟩ := S'; (try dsimp only))))
local macro_rules | `(tactic| walk_at "call ref") => `(tactic| (k_here; (with_reducible show wpAny _ _ (call (Value.ref 749) _) _ _ _); k_dflt (refine' contains_ok ?k1 ?k2 ?k3 ?k4 ?k5 ?_; (case k2 => assumption); (case k3 => assumption); (case k4 => assumption); (case k1 => exact ⟨by assumption, by assumption, by (first | assumption | exact Around.frames_deeper (by assumption) | exact Around.frames_deeper (Around.frames_deeper (by assumption)) | exact Around.frames_deeper (Around.frames_deeper (Around.frames_deeper (by assumption)))), by (first | assumption | rfl), by (first | assumption | rfl), by k_room⟩); (case k5 => exact ⟨_, _, _, _, _, _, _, _, _, _, _, _, by (first | assumption | exact cb_drop (by assumption) (by intro q hq; repeat (first | exact hq | refine List.mem_cons_of_mem _ ?_))), by assumption, by assumption⟩); k_whole; intro h' tk' frs' TL' F' S'; obtain ⟨_, _, _, _, _, _, _, _, _, _, _, _, N', hD', hO'⟩ := S'; (try dsimp only); (first | rw [isSome_of (by assumption)] | rw [Option.isSome_eq_false_iff.mpr (Option.isNone_iff_eq_none.mpr (by assumption))] | skip))))
local macro_rules | `(tactic| walk_at "call ref") => `(tactic| (k_here; (with_reducible show wpAny _ _ (call (Value.ref 857) _) _ _ _); k_dflt (refine' getitem_ok ?k1 ?k2 ?k3 ?k4 ?k5 ?k6 ?k7 ?k8 ?k9 ?_; (case k2 => assumption); (case k3 => assumption); (case k4 => assumption); (case k1 => exact ⟨by assumption, by assumption, by (first | assumption | exact Around.frames_deeper (by assumption) | exact Around.frames_deeper (Around.frames_deeper (by assumption)) | exact Around.frames_deeper (Around.frames_deeper (Around.frames_deeper (by assumption)))), by (first | assumption | rfl), by (first | assumption | rfl), by k_room⟩); (case k5 => exact ⟨_, _, _, _, _, _, _, _, _, _, _, _, by (first | assumption | exact cb_drop (by assumption) (by intro q hq; repeat (first | exact hq | refine List.mem_cons_of_mem _ ?_))), by assumption, by assumption⟩); (case k6 => assumption); (case k7 => assumption); (case k8 => omega); (case k9 => omega); k_whole; intro h' tk' frs' TL' F' S'; obtain ⟨_, _, _, _, _, _, _, _, _, _, _, _, N', hD', hO'⟩ := S'; (try dsimp only))))
local macro_rules | `(tactic| walk_at "call ref") => `(tactic| (k_here; (with_reducible show wpAny _ _ (call (Value.ref 865) _) _ _ _); k_dflt (first | (refine' sethit_ok ?k1 ?k2 ?k3 ?k4 ?k5 ?k6 ?k7 ?k8 ?k9 ?k10 ?_; (case k2 => assumption); (case k3 => assumption); (case k4 => assumption); (case k1 => exact ⟨by assumption, by assumption, by (first | assumption | exact Around.frames_deeper (by assumption) | exact Around.frames_deeper (Around.frames_deeper (by assumption)) | exact Around.frames_deeper (Around.frames_deeper (Around.frames_deeper (by assumption)))), by (first | assumption | rfl), by (first | assumption | rfl), by k_room⟩); (case k5 => exact ⟨_, _, _, _, _, _, _, _, _, _, _, _, by (first | assumption | exact cb_drop (by assumption) (by intro q hq; repeat (first | exact hq | refine List.mem_cons_of_mem _ ?_))), by assumption, by assumption⟩); (case k7 => assumption); (case k8 => assumption); (case k6 => omega); (case k9 => omega); (case k10 => omega); k_whole; intro h' tk' frs' TL' F' S'; obtain ⟨_, _, _, _, _, _, _, _, _, _, _, _, N', hD', hO'⟩ := S'; (try dsimp only)) | (refine' setmiss_ok ?k1 ?k2 ?k3 ?k4 ?k5 ?k6 ?k7 ?k8 ?_; (case k2 => assumption); (case k3 => assumption); (case k4 => assumption); (case k1 => exact ⟨by assumption, by assumption, by (first | assumption | exact Around.frames_deeper (by assumption) | exact Around.frames_deeper (Around.frames_deeper (by assumption)) | exact Around.frames_deeper (Around.frames_deeper (Around.frames_deeper (by assumption)))), by (first | assumption | rfl), by (first | assumption | rfl), by k_room⟩); (case k5 => exact ⟨_, _, _, _, _, _, _, _, _, _, _, _, by (first | assumption | exact cb_drop (by assumption) (by intro q hq; repeat (first | exact hq | refine List.mem_cons_of_mem _ ?_))), by assumption, by assumption⟩); (case k6 => assumption); (case k7 => assumption); (case k8 => assumption); k_whole; intro h' tk' frs' TL' F' S'; obtain ⟨_, _, _, _, _, _, _, _, _, _, _, _, N', hD', hO'⟩ := S'; (try dsimp only)))))
local macro_rules | `(tactic| walk_at "call builtin:dict.clear") => `(tactic| (k_here; k_dflt (refine' clear_ok ?k1 ?k2 ?k3 ?k4 ?k5 ?_; (case k1 => k_asm); (case k2 => k_asm); (case k3 => k_updF); (case k4 => k_asm); (case k5 => rw [sizeLine_eq]; omega); intro h' o' F' N' hd'; (try dsimp only at N'))))
section
variable {prog : Program} {w : World} {A : Around} {E : Value → Shared → Prop} {s : Shared} {L x dx D O : Addr} {hb : Heap} {m mg mb : Str → Option Value} {rest frs : Led} {p : Program} {loose : List Str} {mean : ExcName → Option Value} {l : FrL} {env : Env}
  {mx : Int} {kvs ovs : List (Int × Value)} {k : Int} {t : Tok} {Q : Value → Shared → Prop}
theorem deed_m_some {vb : Int} {tv : Tok} {wv iv k0 : Int} {tw ti : Tok} {u0 : Value} {ovr : List (Int × Value)} (C : Cx 26 w A hb L env l p loose mean mg mb) (P : Apt x dx D O) (F : Fr hb L s.heap m) (TL : Tl hb [x, dx, D, O] l rest frs) (S : Cache prog w hb L s.heap x dx D O mx kvs ovs (rest ++ frs)) (Hn : A.handled = none)
    (ch : Coh mx kvs ovs) (b : vb = 10) (eo : ovs = (k0, u0) :: ovr) (hk : valueAt kvs k0 = some (.int iv ti))
    (hQ : ∀ h' tk' frs' tp t0 n, Tl hb [x, dx, D, O] l rest frs' → Fr hb L h' m → Cache prog w hb L h' x dx D O mx (without kvs k0) ovr ((tp, { cls := .type "tuple", data := .seq #[.int k0 t0, .int iv ti] n }) :: (rest ++ frs')) → AllLt tp (rest ++ frs') → O < tp → Q (.ref tp) { s with heap := h', toks := tk' }) :
    wpAny (model prog w) A (call (.ref 906) [.ref x, .int vb tv, (.int k t), .int wv tw]) Q E s := by
  subst b
  obtain ⟨X, T, hA, hf, hke, hdep⟩ := C
  obtain ⟨h1, h2, h3, h4, t1, t2, t3, t4, tc, tm, oD, oO, N, hD, hO⟩ := S
  have P0 := P
  obtain ⟨g1, g2, g3, loD, loO⟩ := P
  replace g1 := ltN g1
  replace g2 := ltN g2
  replace g3 := ltN g3
  have H : HdL A.handled rest := .inl Hn
  have c1 := ch.ln
  have c2 := ch.le
  have c3 := ch.m1
  have c4 := ch.m4
  have z1 : kvs.length ≤ 8 := by omega
  have z2 : ovs.length ≤ 8 := by omega
  subst eo
  simp only [List.length_cons] at c1 z2
  k_steps
  exact hQ _ _ _ _ _ _ (by assumption) (by assumption) ⟨_, _, _, _, _, _, _, _, _, _, _, _, mv5 (by assumption), by assumption, by assumption⟩ (by assumption) (ltN (by omega))
theorem deed_o {vb : Int} {tv : Tok} {wv : Int} {tw : Tok} (C : Cx 26 w A hb L env l p loose mean mg mb) (P : Apt x dx D O) (F : Fr hb L s.heap m) (TL : Tl hb [x, dx, D, O] l rest frs) (S : Cache prog w hb L s.heap x dx D O mx kvs ovs (rest ++ frs)) (Hn : A.handled = none)
    (ch : Coh mx kvs ovs) (b : vb = 11)
    (hQ : ∀ h' tk' frs' tr, Tl hb [x, dx, D, O] l rest frs' → Fr hb L h' m → Cache prog w hb L h' x dx D O mx [] [] (rest ++ frs') → Q (.str (Str.ofString "cleared") tr) { s with heap := h', toks := tk' }) :
    wpAny (model prog w) A (call (.ref 906) [.ref x, .int vb tv, (.int k t), .int wv tw]) Q E s := by
  subst b
  obtain ⟨X, T, hA, hf, hke, hdep⟩ := C
  obtain ⟨h1, h2, h3, h4, t1, t2, t3, t4, tc, tm, oD, oO, N, hD, hO⟩ := S
  have P0 := P
  obtain ⟨g1, g2, g3, loD, loO⟩ := P
  replace g1 := ltN g1
  replace g2 := ltN g2
  replace g3 := ltN g3
  have H : HdL A.handled rest := .inl Hn
  have c1 := ch.ln
  have c2 := ch.le
  have c3 := ch.m1
  have c4 := ch.m4
  have z1 : kvs.length ≤ 8 := by omega
  have z2 : ovs.length ≤ 8 := by omega
  k_steps
  exact hQ _ _ _ _ (by assumption) (by assumption) ⟨_, _, _, _, _, _, _, _, _, _, _, _, by assumption, by assumption, by assumption⟩
end
end
section
theorem hold_on {hb h : Heap} {L e x dx D O : Addr} {oe : Obj} {ox odx oD oO : Obj} {l : FrL} {rest frs : Led} (TL : Tl hb [x, dx, D, O] l rest frs) (N : News hb L h ((x, ox) :: (dx, odx) :: (D, oD) :: (O, oO) :: (rest ++ frs))) (H : HeldE hb L h ((x, ox) :: (dx, odx) :: (D, oD) :: (O, oO) :: (rest ++ frs)) e oe) :
    Tl hb [x, dx, D, O] l ((e, oe) :: rest) frs ∧ News hb L h ((x, ox) :: (dx, odx) :: (D, oD) :: (O, oO) :: ((e, oe) :: rest ++ frs)) :=
  ⟨TL.addRest H (four (.head _) (.tail _ (.head _)) (.tail _ (.tail _ (.head _))) (.tail _ (.tail _ (.tail _ (.head _))))) (fun _ hq => .tail _ (.tail _ (.tail _ (.tail _ (List.mem_append_right _ hq))))), mv5 (H.news N)⟩
/-- an exception that came in none -/
def Hd0 (e : Addr) (rest : Led) : Prop := ∃ o vs, (e, o) ∈ rest ∧ o.data = .fields vs ∧ vs[2]? = some .none
theorem hold0 {hb h : Heap} {L e x dx D O : Addr} {oe : Obj} {vs : Array Value} {ox odx oD oO : Obj} {l : FrL} {rest frs : Led} (TL : Tl hb [x, dx, D, O] l rest frs) (N : News hb L h ((x, ox) :: (dx, odx) :: (D, oD) :: (O, oO) :: (rest ++ frs))) (H : HeldE hb L h ((x, ox) :: (dx, odx) :: (D, oD) :: (O, oO) :: (rest ++ frs)) e oe)
    (hd : oe.data = .fields vs) (h2 : vs[2]? = some .none) :
    ∃ r, r = (e, oe) :: rest ∧ Tl hb [x, dx, D, O] l r frs ∧ News hb L h ((x, ox) :: (dx, odx) :: (D, oD) :: (O, oO) :: (r ++ frs)) ∧ HdL (some (.ref e)) r ∧ Hd0 e r :=
  ⟨_, rfl, (hold_on TL N H).1, (hold_on TL N H).2, .inr ⟨e, oe, vs, _, rfl, .head _, hd, h2, .inl rfl⟩, ⟨oe, vs, .head _, hd, h2⟩⟩
theorem hold1 {hb h : Heap} {L e e1 x dx D O : Addr} {oe : Obj} {vs : Array Value} {c : Value} {ox odx oD oO : Obj} {l : FrL} {rest frs : Led} (TL : Tl hb [x, dx, D, O] l rest frs) (N : News hb L h ((x, ox) :: (dx, odx) :: (D, oD) :: (O, oO) :: (rest ++ frs))) (H : HeldE hb L h ((x, ox) :: (dx, odx) :: (D, oD) :: (O, oO) :: (rest ++ frs)) e oe)
    (hd : oe.data = .fields vs) (h2 : vs[2]? = some c) (h1 : Hd0 e1 rest) (hc : c = .ref e1) :
    ∃ r, r = (e, oe) :: rest ∧ Tl hb [x, dx, D, O] l r frs ∧ News hb L h ((x, ox) :: (dx, odx) :: (D, oD) :: (O, oO) :: (r ++ frs)) ∧ HdL (some (.ref e)) r :=
  let ⟨o1, vs1, m1, d1, c1⟩ := h1; let h2 := hc ▸ h2
  ⟨_, rfl, (hold_on TL N H).1, (hold_on TL N H).2, .inr ⟨e, oe, vs, _, rfl, .head _, hd, h2, .inr ⟨e1, o1, vs1, rfl, H.off _ (.tail _ (.tail _ (.tail _ (.tail _ (List.mem_append_left _ m1))))), .tail _ m1, d1, c1⟩⟩⟩
theorem drop5 {hb h : Heap} {L : Addr} {a b c d z : Addr × Obj} {rest frs : Led} (N : News hb L h (a :: b :: c :: d :: (z :: rest ++ frs))) : News hb L h (a :: b :: c :: d :: (rest ++ frs)) := fun q hq => N q (by
  simp only [List.mem_cons, List.cons_append] at hq ⊢
  rcases hq with h | h | h | h | h <;> simp [h])
end
section
local macro_rules | `(tactic| k_lt $h:ident) => `(tactic| (have k_tl := allLt_of $h; (simp only [AllLt, and_true] at k_tl); (repeat (replace k_tl := And.right k_tl)); replace $h := allLt_of $h; simp only [AllLt, and_true] at $h:ident))
local macro_rules | `(tactic| k_all) => `(tactic| first | exact Tl.apart (by assumption) |>.ne mem4_1 | exact Tl.apart (by assumption) |>.ne mem4_2 | exact Tl.apart (by assumption) |>.ne mem4_3 | exact Tl.apart (by assumption) |>.ne mem4_4 | exact allLt_ne (by assumption))
local macro_rules | `(tactic| k_room) => `(tactic| ((try simp only [depth_mark, depth_under_make, depth_under_kw, depth_in1, depth_deeper, depth_caller]); omega))
local macro_rules | `(tactic| walk_at "call ref") => `(tactic| (k_here; k_dflt (refine wpAny_call ?_; refine' enter ?k1 ?k2 ?k3 ?k4 ?k5 ?k6 ?k7 ?kA ?kF ?kK ?k8 ?k9 ?kR ?kB ?kL ?_ ?c2 ?c3 ?c4 ?c5; (case k1 => k_asm); (case k2 => k_asm); (case k3 => k_asm); (case k4 => k_asm); (case k5 => k_asm); (case k6 => repeat (first | exact TailAt.here | apply TailAt.cons)); (case k7 => exact four (by k_mem) (by k_mem) (by k_mem) (by k_mem)); (case kA => first | assumption | exact Around.frames_deeper (by assumption) | exact Around.frames_deeper (Around.frames_deeper (by assumption)) | exact Around.frames_deeper (Around.frames_deeper (Around.frames_deeper (by assumption)))); (case kF => first | assumption | rfl); (case kK => first | assumption | rfl); (case k8 => k_is); (case k9 => k_is); (case kR => k_room); (case kB => first | exact BindsTo.of_eq rfl | exact binds_K (by k_in) rfl (by k_is) rfl rfl rfl | fail "enter: no rule for these arguments"); (case kL => exact locs rfl); (case c5 => decide); (case c2 => exact rfl); (case c3 => exact rfl); (case c4 => exact rfl); k_whole; intro frs' L' h' TL' F' N'; (try dsimp only at N' ⊢); (try k_fold))))
local macro_rules | `(tactic| walk_at "LeaveM") => `(tactic| (k_dflt (first
  | (refine' leaveM1 ?k1 ?k2 ?k3 ?k4 ?k5 ?k6 ?k7 ?k8 ?_; (case k1 => assumption); (case k5 => assumption); (case k2 => first | assumption | rfl); (case k3 => assumption); (case k4 => assumption); (case k6 => k_mem); (case k7 => exact kept4 (by assumption) (by k_mem) (by k_mem) (by k_mem) (by k_mem)); (case k8 => (intro q hq; repeat (first | exact hq | refine List.mem_cons_of_mem _ ?_))); k_whole; intro frs' TL' F' N' lt')
  | (refine' leaveM ?k1 ?k2 ?k3 ?k4 ?k5 ?k6 ?_; (case k1 => assumption); (case k2 => first | assumption | rfl); (case k3 => assumption); (case k4 => assumption); (case k5 => exact kept4 (by assumption) (by k_mem) (by k_mem) (by k_mem) (by k_mem)); (case k6 => (intro q hq; repeat (first | exact hq | refine List.mem_cons_of_mem _ ?_))); k_whole; intro frs' TL' F' N')); (try simp only [List.cons_append, List.nil_append] at N'); (try dsimp only)))
local macro_rules | `(tactic| walk_at "compareOp In int ref") => `(tactic| (k_here; k_dflt (refine kda_in (knd := PySem.intKind _ _) (by k_asm) (by k_mem) (by k_asm) (by k_asm) (intKind_is _ _ _ _) _ (by first | assumption | exact isSome_of (by assumption) | exact Option.isSome_eq_false_iff.mpr (Option.isNone_iff_eq_none.mpr (by assumption)) | rfl) ?_)))
local macro_rules | `(tactic| walk_at "getMethod ref") => `(tactic| (k_here; (with_reducible show wpAny _ _ (getMethod (Value.ref _) (Str.ofString "pop") _) _ _ _); k_dflt (refine kob_method (knd := PySem.intKind _ _) PySem.F.slot_dict_pop PySem.F.type_dict_pop (by k_asm) (by k_mem) (by k_asm) ?_)))
local macro_rules | `(tactic| walk_at "getMethod ref") => `(tactic| (k_here; (with_reducible show wpAny _ _ (getMethod (Value.ref _) (Str.ofString "clear") _) _ _ _); k_dflt (refine kob_method (knd := PySem.intKind _ _) PySem.F.slot_dict_clear PySem.F.type_dict_clear (by k_asm) (by k_mem) (by k_asm) ?_)))
local macro_rules | `(tactic| walk_at "call builtin:dict.pop") => `(tactic| (k_here; k_dflt (first
  | (refine' kob_pop (knd := PySem.intKind _ _) (more := []) ?k1 ?k2 ?k3 ?k4 (intKind_is _ _ _ _) (.inl rfl) (by rfl) (PySem.F.args_dict_pop_2 _ _) ?k5 ?k6 ?_; (case k1 => k_asm); (case k2 => k_asm); (case k3 => k_updF); (case k4 => k_asm); (case k5 => assumption); (case k6 => rw [sizeLine_eq]; omega); intro h' o' F' N' hd'; (try dsimp only at N'))
  | (refine' pop_missing ?k0 ?k1 ?k2 ?k3 ?k4 ?k5 ?_; (case k1 => k_asm); (case k2 => k_mem); (case k3 => k_asm); (case k4 => k_asm); (case k5 => assumption); (case k0 => exact HdL.hd (by assumption) (fun q hq => (by assumption : News _ _ _ _) q (by (repeat (first | exact List.mem_append_left _ hq | refine List.mem_cons_of_mem _ ?_))) |>.1)); k_whole; intro h' e' x'))))
local macro_rules | `(tactic| walk_at "setItem ref int") => `(tactic| (k_here; k_dflt (refine' kda_set (knd := PySem.intKind _ _) ?k1 ?k2 ?k3 ?k4 (intKind_is _ _ _ _) ?k5 ?_; (case k1 => k_asm); (case k2 => k_asm); (case k3 => k_updF); (case k4 => k_asm); (case k5 => rw [sizeLine_eq]; (try simp only [List.length_append, List.length_cons, List.length_nil]); omega); intro h' o' F' N' hd'; (try dsimp only at N'))))
local macro_rules | `(tactic| walk_at "delItem ref int") => `(tactic| (k_here; k_dflt (refine' kob_del (knd := PySem.intKind _ _) ?k1 ?k2 ?k3 ?k4 (intKind_is _ _ _ _) ?k5 ?k6 ?_; (case k1 => k_asm); (case k2 => k_asm); (case k3 => k_updF); (case k4 => k_asm); (case k5 => first | assumption | exact isSome_of (by assumption)); (case k6 => rw [sizeLine_eq]; omega); intro h' o' F' N' hd'; (try dsimp only at N'))))
local macro_rules | `(tactic| walk_at "subscriptTail") => `(tactic| (k_here; (with_reducible show wpAny _ _ (subscriptTail _ _ (Value.ref _) (Value.int _ _)) _ _ _); k_dflt (first
  | (refine' kdt_tail (knd := PySem.intKind _ _) ?k1 ?k2 ?k3 (kdt_getItem (knd := PySem.intKind _ _) ?k1 ?k2 ?k3 (intKind_is _ _ _ _) ?k4 ?_); (case k1 => k_asm); (case k2 => k_mem); (case k3 => k_asm); (case k4 => assumption); k_whole)
  | (refine' tail_missing ?k0 ?k1 ?k2 ?k3 ?k4 ?k5 ?_; (case k0 => first | rfl | assumption); (case k1 => k_asm); (case k2 => k_mem); (case k3 => k_asm); (case k4 => k_asm); (case k5 => assumption); k_whole; intro h' e' x'))))
local macro_rules | `(tactic| walk_at "noteFrame ref") => `(tactic| (k_here; k_dflt (first
  | (refine' note_new ?k1 ?k2 ?k3 ?k4 ?k5 ?k6 ?k7 ?k8 ?_; (case k1 => assumption))
  | (refine' note_fly ?k1 ?k2 ?k3 ?k4 ?k5 ?k6 ?k7 ?k8 ?_; (case k1 => assumption))); (case k2 => assumption); (case k3 => assumption); (case k4 => assumption); (case k5 => first | assumption | exact Around.frames_deeper (by assumption) | exact Around.frames_deeper (Around.frames_deeper (by assumption)) | exact Around.frames_deeper (Around.frames_deeper (Around.frames_deeper (by assumption)))); (case k6 => exact kept4 (by assumption) (by k_mem) (by k_mem) (by k_mem) (by k_mem)); (case k7 => (intro q hq; repeat (first | exact hq | refine List.mem_cons_of_mem _ ?_))); (case k8 => rfl); k_whole; intro h' frs' TL' F' N' X'; (try simp only [List.cons_append, List.nil_append] at N' X')))
local macro_rules | `(tactic| walk_at "setFlight ref") => `(tactic| (k_here; k_dflt (refine' land_fly ?k1 ?k2 ?k3 ?_; (case k1 => assumption); (case k2 => assumption); (case k3 => assumption); k_whole; intro h' F' N' X')))
local macro_rules | `(tactic| walk_at "handleBy ref") => `(tactic| (k_here; k_dflt (first
  | (refine' handle_hit (T' := "KeyError") ?k1 ?k2 ?k3 ?k4 ?k5 ?k6 PyProof.Rows.Boot.«KeyError» ?k7 kr_isExc_KeyError kr_notTuple_KeyError ?k8 ?_ ?c1 ?c2 ?c3 ?c4; (case k1 => assumption); (case k2 => assumption); (case k3 => assumption); (case k4 => assumption); (case k5 => assumption); (case k6 => k_is); (case k7 => decide); (case k8 => rw [isSubtype_type]; kernel_rfl); (case c1 => rfl); (case c2 => rfl); (case c3 => decide); (case c4 => passes_own); k_whole)); intro h' oe' vs' F' N' hE' hv1' hv2'))
local macro_rules | `(tactic| walk_at "leaving ref") => `(tactic| (k_here; k_dflt (first
  | (refine' leave_new ?k1 ?k2 ?k3 ?k4 ?k9 ?k5 ?k6 ?k7 ?k8 ?_; (case k1 => assumption))
  | (refine' leave_fly ?k1 ?k2 ?k3 ?k4 ?k9 ?k5 ?k6 ?k7 ?k8 ?_; (case k1 => assumption))); (case k2 => assumption); (case k3 => assumption); (case k4 => assumption); (case k9 => first | assumption | rfl); (case k5 => first | assumption | exact Around.frames_deeper (by assumption) | exact Around.frames_deeper (Around.frames_deeper (by assumption)) | exact Around.frames_deeper (Around.frames_deeper (Around.frames_deeper (by assumption)))); (case k6 => exact kept4a (by k_mem) (by k_mem) (by k_mem) (by k_mem)); (case k7 => (intro q hq; repeat (first | exact hq | refine List.mem_cons_of_mem _ ?_))); (case k8 => rfl); k_whole; intro h' frs' TL' F' N' X'; (try simp only [List.cons_append, List.nil_append] at N' X'); (try dsimp only)))
local macro_rules | `(tactic| walk_at "delItem ref") => `(tactic| (k_here; (with_reducible show wpAny _ _ (delItem (Value.ref _) _) _ _ _); k_dflt (refine' del_inst ?k1 ?k2 ?k3 ?k4 ?k5 ?k6 ?_; (case k1 => k_asm); (case k2 => k_asm); (case k3 => k_inst); (case k4 => k_is); (case k5 => k_is); (case k6 => k_is); k_whole)))
local macro_rules | `(tactic| walk_at "WhlIf") => `(tactic| first | (refine WhlIf.yes (decide_eq_true (by omega)) ?_) | (refine WhlIf.no (decide_eq_false (by omega)) ?_))
local macro_rules | `(tactic| walk_at "delItem ref int") => `(tactic| (k_here; k_dflt (refine' del_missing ?k0 ?k1 ?k2 ?k3 ?k4 ?k5 ?_; (case k0 => first | rfl | assumption); (case k1 => k_asm); (case k2 => k_mem); (case k3 => k_asm); (case k4 => k_asm); (case k5 => assumption); k_whole; intro h' e' x')))
local macro_rules | `(tactic| walk_at "compareOp Is str ref") => `(tactic| refine is_str_ref ?_)
local macro_rules | `(tactic| walk_at "call ref") => `(tactic| (k_here; (with_reducible show wpAny _ _ (call (Value.ref 873) _) _ _ _); k_dflt (refine' delitem_ok ?k1 ?k2 ?k3 ?k4 ?k5 ?k6 ?k7 ?k8 ?k9 ?_; (case k2 => assumption); (case k3 => assumption); (case k4 => assumption); (case k1 => exact ⟨by assumption, by assumption, by (first | assumption | exact Around.frames_deeper (by assumption) | exact Around.frames_deeper (Around.frames_deeper (by assumption)) | exact Around.frames_deeper (Around.frames_deeper (Around.frames_deeper (by assumption)))), by (first | assumption | rfl), by (first | assumption | rfl), by k_room⟩); (case k5 => exact ⟨_, _, _, _, _, _, _, _, _, _, _, _, by (first | assumption | exact cb_drop (by assumption) (by intro q hq; repeat (first | exact hq | refine List.mem_cons_of_mem _ ?_))), by assumption, by assumption⟩); (case k6 => assumption); (case k7 => assumption); (case k8 => omega); (case k9 => omega); k_whole; intro h' tk' frs' TL' F' S'; obtain ⟨_, _, _, _, _, _, _, _, _, _, _, _, N', hD', hO'⟩ := S'; (try dsimp only))))
local macro_rules | `(tactic| walk_at "call ref") => `(tactic| (k_here; (with_reducible show wpAny _ _ (call (Value.ref 749) _) _ _ _); k_dflt (refine' contains_ok ?k1 ?k2 ?k3 ?k4 ?k5 ?_; (case k2 => assumption); (case k3 => assumption); (case k4 => assumption); (case k1 => exact ⟨by assumption, by assumption, by (first | assumption | exact Around.frames_deeper (by assumption) | exact Around.frames_deeper (Around.frames_deeper (by assumption)) | exact Around.frames_deeper (Around.frames_deeper (Around.frames_deeper (by assumption)))), by (first | assumption | rfl), by (first | assumption | rfl), by k_room⟩); (case k5 => exact ⟨_, _, _, _, _, _, _, _, _, _, _, _, by (first | assumption | exact cb_drop (by assumption) (by intro q hq; repeat (first | exact hq | refine List.mem_cons_of_mem _ ?_))), by assumption, by assumption⟩); k_whole; intro h' tk' frs' TL' F' S'; obtain ⟨_, _, _, _, _, _, _, _, _, _, _, _, N', hD', hO'⟩ := S'; (try dsimp only); (first | rw [isSome_of (by assumption)] | rw [Option.isSome_eq_false_iff.mpr (Option.isNone_iff_eq_none.mpr (by assumption))] | skip))))
local macro_rules | `(tactic| walk_at "call ref") => `(tactic| (k_here; (with_reducible show wpAny _ _ (call (Value.ref 857) _) _ _ _); k_dflt (refine' getitem_ok ?k1 ?k2 ?k3 ?k4 ?k5 ?k6 ?k7 ?k8 ?k9 ?_; (case k2 => assumption); (case k3 => assumption); (case k4 => assumption); (case k1 => exact ⟨by assumption, by assumption, by (first | assumption | exact Around.frames_deeper (by assumption) | exact Around.frames_deeper (Around.frames_deeper (by assumption)) | exact Around.frames_deeper (Around.frames_deeper (Around.frames_deeper (by assumption)))), by (first | assumption | rfl), by (first | assumption | rfl), by k_room⟩); (case k5 => exact ⟨_, _, _, _, _, _, _, _, _, _, _, _, by (first | assumption | exact cb_drop (by assumption) (by intro q hq; repeat (first | exact hq | refine List.mem_cons_of_mem _ ?_))), by assumption, by assumption⟩); (case k6 => assumption); (case k7 => assumption); (case k8 => omega); (case k9 => omega); k_whole; intro h' tk' frs' TL' F' S'; obtain ⟨_, _, _, _, _, _, _, _, _, _, _, _, N', hD', hO'⟩ := S'; (try dsimp only))))
local macro_rules | `(tactic| walk_at "call ref") => `(tactic| (k_here; (with_reducible show wpAny _ _ (call (Value.ref 865) _) _ _ _); k_dflt (first | (refine' sethit_ok ?k1 ?k2 ?k3 ?k4 ?k5 ?k6 ?k7 ?k8 ?k9 ?k10 ?_; (case k2 => assumption); (case k3 => assumption); (case k4 => assumption); (case k1 => exact ⟨by assumption, by assumption, by (first | assumption | exact Around.frames_deeper (by assumption) | exact Around.frames_deeper (Around.frames_deeper (by assumption)) | exact Around.frames_deeper (Around.frames_deeper (Around.frames_deeper (by assumption)))), by (first | assumption | rfl), by (first | assumption | rfl), by k_room⟩); (case k5 => exact ⟨_, _, _, _, _, _, _, _, _, _, _, _, by (first | assumption | exact cb_drop (by assumption) (by intro q hq; repeat (first | exact hq | refine List.mem_cons_of_mem _ ?_))), by assumption, by assumption⟩); (case k7 => assumption); (case k8 => assumption); (case k6 => omega); (case k9 => omega); (case k10 => omega); k_whole; intro h' tk' frs' TL' F' S'; obtain ⟨_, _, _, _, _, _, _, _, _, _, _, _, N', hD', hO'⟩ := S'; (try dsimp only)) | (refine' setmiss_ok ?k1 ?k2 ?k3 ?k4 ?k5 ?k6 ?k7 ?k8 ?_; (case k2 => assumption); (case k3 => assumption); (case k4 => assumption); (case k1 => exact ⟨by assumption, by assumption, by (first | assumption | exact Around.frames_deeper (by assumption) | exact Around.frames_deeper (Around.frames_deeper (by assumption)) | exact Around.frames_deeper (Around.frames_deeper (Around.frames_deeper (by assumption)))), by (first | assumption | rfl), by (first | assumption | rfl), by k_room⟩); (case k5 => exact ⟨_, _, _, _, _, _, _, _, _, _, _, _, by (first | assumption | exact cb_drop (by assumption) (by intro q hq; repeat (first | exact hq | refine List.mem_cons_of_mem _ ?_))), by assumption, by assumption⟩); (case k6 => assumption); (case k7 => assumption); (case k8 => assumption); k_whole; intro h' tk' frs' TL' F' S'; obtain ⟨_, _, _, _, _, _, _, _, _, _, _, _, N', hD', hO'⟩ := S'; (try dsimp only)))))
local macro_rules | `(tactic| walk_at "call builtin:dict.clear") => `(tactic| (k_here; k_dflt (refine' clear_ok ?k1 ?k2 ?k3 ?k4 ?k5 ?_; (case k1 => k_asm); (case k2 => k_asm); (case k3 => k_updF); (case k4 => k_asm); (case k5 => rw [sizeLine_eq]; omega); intro h' o' F' N' hd'; (try dsimp only at N'))))
local macro_rules | `(tactic| walk_at "handleBy ref") => `(tactic| (k_here; k_dflt (first
  | (refine' handle_hit (T' := "KeyError") ?k1 ?k2 ?k3 ?k4 ?k5 ?k6 PyProof.Rows.Boot.«KeyError» ?k7 kr_isExc_KeyError kr_notTuple_KeyError ?k8 ?_ ?c1 ?c2 ?c3 ?c4; (case k1 => assumption); (case k2 => assumption); (case k3 => assumption); (case k4 => assumption); (case k5 => assumption); (case k6 => k_is); (case k7 => decide); (case k8 => rw [isSubtype_type]; kernel_rfl); (case c1 => rfl); (case c2 => rfl); (case c3 => decide); (case c4 => passes_own); k_whole)); intro h' oe' vs' F' N' hE' hv1' hv2'; first | (obtain ⟨r', er', TL', N'', H'⟩ := hold1 (by assumption) N' hE' hv1' hv2' (by assumption) rfl) | (obtain ⟨r', er', TL', N'', H', H0'⟩ := hold0 (by assumption) N' hE' hv1' hv2')))
local macro_rules | `(tactic| walk_at "exec Raise some none") => `(tactic| (k_here; refine raiseX ?_))
local macro_rules | `(tactic| walk_at "call type:KeyError") => `(tactic| (k_here; k_dflt (refine' call_excX excClass_KeyError ?k0 ?_; (case k0 => exact HdL.hd (by assumption) (fun q hq => (by assumption : News _ _ _ _) q (by (repeat (first | exact List.mem_append_left _ hq | refine List.mem_cons_of_mem _ ?_))) |>.1)); k_whole; intro h' e' x')))
section
variable {prog : Program} {w : World} {A : Around} {E : Value → Shared → Prop} {s : Shared} {L x dx D O : Addr} {hb : Heap} {m mg mb : Str → Option Value} {rest frs : Led} {p : Program} {loose : List Str} {mean : ExcName → Option Value} {l : FrL} {env : Env}
  {mx : Int} {kvs ovs : List (Int × Value)} {k : Int} {t : Tok} {Q : Value → Shared → Prop}
theorem deed_c_miss {vb : Int} {tv : Tok} {wv : Int} {tw : Tok} (C : Cx 26 w A hb L env l p loose mean mg mb) (P : Apt x dx D O) (F : Fr hb L s.heap m) (TL : Tl hb [x, dx, D, O] l rest frs) (S : Cache prog w hb L s.heap x dx D O mx kvs ovs (rest ++ frs)) (Hn : A.handled = none)
    (ch : Coh mx kvs ovs) (b : ¬ vb < 3) (b2 : vb < 5) (hk : valueAt kvs k = none)
    (hQ : ∀ h' tk' frs', Tl hb [x, dx, D, O] l rest frs' → Fr hb L h' m → Cache prog w hb L h' x dx D O mx (setK mx kvs ovs k (.int wv tw)) (setO mx kvs ovs k) (rest ++ frs') → Q (.int wv tw) { s with heap := h', toks := tk' }) :
    wpAny (model prog w) A (call (.ref 906) [.ref x, .int vb tv, (.int k t), .int wv tw]) Q E s := by
  obtain ⟨X, T, hA, hf, hke, hdep⟩ := C
  obtain ⟨h1, h2, h3, h4, t1, t2, t3, t4, tc, tm, oD, oO, N, hD, hO⟩ := S
  have P0 := P
  obtain ⟨g1, g2, g3, loD, loO⟩ := P
  replace g1 := ltN g1
  replace g2 := ltN g2
  replace g3 := ltN g3
  have H : HdL A.handled rest := .inl Hn
  have c1 := ch.ln
  have c2 := ch.le
  have c3 := ch.m1
  have c4 := ch.m4
  have z1 : kvs.length ≤ 8 := by omega
  have z2 : ovs.length ≤ 8 := by omega
  k_steps
  subst_vars
  exact hQ _ _ _ (Tl.dropRest (Tl.dropRest (by assumption))) (by assumption) ⟨_, _, _, _, _, _, _, _, _, _, _, _, drop5 (drop5 (by assumption)), by assumption, by assumption⟩
end
end
section
theorem raise_pushed {prog : Program} {w : World} {A : Around} {E : Value → Shared → Prop} {s : Shared} {α : Type} {Q : α → Shared → Prop} {h1 : Heap} {o' ob : Obj} {vs : Array Value} (hh : A.handled = none) (hd : ob.data = .fields vs) (hv1 : vs[1]? = some .none) (hv2 : vs[2]? = some .none)
    (h : ∀ h' e, NewX h1 h' e ob.cls .none → E (.ref e) { s with heap := h' }) : wpAny (model prog w) A (raiseNew (.ref (h1.push o').objs.size) : Sem α) Q E { s with heap := (h1.push o').push ob } := by
  have he : ((h1.push o').push ob).get? (h1.push o').objs.size = some ob := Heap.get?_push_size _ (Obj.isFreed_of_fields hd)
  refine raiseNew_any (A := A) (h0 := h1) (.inl hh) (fun b o hb => Heap.get?_push_of_some _ (Heap.get?_push_of_some _ hb)) (Heap.get?_none_of_le (by simp)) he hd hv1 hv2 fun h' x => ?_
  rw [hh] at x
  exact h h' _ x
theorem next_end {prog : Program} {w : World} {A : Around} {E : Value → Shared → Prop} {s : Shared} {h₀ : Heap} {L d it : Addr} {m : Str → Option Value} {news : Led} {g : Obj → Led} {o io : Obj} {i ep : Nat} {Q : Value → Shared → Prop} (hh : A.handled = none) (F : Fr h₀ L s.heap m) (N : News h₀ L s.heap news) (U : UpdF it io news g) (hi : KdkIter io d i 0 ep) (ha : KdkAt (PySem.intKind prog w) o [] ep) (hp : (d, o) ∈ news)
    (h : ∀ h1 h' o' e, Fr h₀ L h1 m → News h₀ L h1 (g o') → NewX h1 h' e (.type "StopIteration") .none → E (.ref e) { s with heap := h' }) :
    wpAny (model prog w) A (call (.builtin "next") [.ref it]) Q E s := by
  obtain ⟨pre, post, hl, hg, a, b⟩ := U.split
  have hmem : (it, io) ∈ news := by rw [hl]; exact List.mem_append_right _ (.head _)
  have hm := N (it, io) hmem
  have hit := hi.at hm.1
  refine call_function_entry (by decide +kernel) (by decide +kernel) kdk_entry_next (kdk_args_next _) ?_
  unfold Builtin.«next»
  refine wpAny_bind (m := someArgs "next" 1 2 _) (wpAny_of_eq (a := [Value.ref it]) (by first | rfl | kernel_rfl!) ?_)
  dsimp only
  refine wpAny_bind (wpAny_specialOf (name := Str.ofString "__next__") hit.typeIs PySem.F.slot_dict_keyiterator_next.lookup ?_)
  refine wpAny_ite_split (fun hab => absurd hab (by decide)) (fun _ => ?_)
  refine wpAny_bind ?_
  obtain ⟨o₁, ho, hc, hd⟩ := id hit
  obtain ⟨od, es, hod, hcd, hdd, hk, hpp, hn⟩ := ha.dictAt (N _ hp).1
  refine wpAny_callSpecial?_slot (name := Str.ofString "__next__") hit.typeIs PySem.F.slot_dict_keyiterator_next
    (wpAny_call_entry PySem.F.slot_dict_keyiterator_next hit.typeIs PySem.F.entry_dict_keyiterator_next ?_ (PySem.F.args_dict_keyiterator_next_1 _))
  refine wpAny_bind (wpAny_pure ?_)
  refine wpAny_bind ?_
  refine wpAny_bind ?_
  first | refine wpAny_bind (wpAny_typeNameOfWhole_keyiter hit.typeIs (wpAny_pure ?_)) | refine wpAny_bind (wpAny_typeNameOf_keyiter hit.typeIs (wpAny_pure ?_))
  refine wpAny_bind (wpAny_fieldsOf ho hd ?_)
  have hown : Builtin.Dict_items.ownsTuple "dict_keyiterator" = false := by decide
  simp only [hown, Bool.false_eq_true, if_false]
  show wpAny _ _ (if (Value.ref d == Value.none) = true then _ else _) _ _ s
  rw [if_neg (show ¬ ((Value.ref d == Value.none) = true) from Bool.false_ne_true)]
  refine wpAny_bind (wpAny_pure ?_)
  refine wpAny_bind (wpAny_dictEntries hod hdd ?_)
  have hsz : es.size = 0 := by have := hpp.length; simp at this; simpa using this
  rw [if_neg (by rw [hsz]; simp)]
  refine wpAny_bind (wpAny_pure ?_)
  refine wpAny_bind (wpAny_dictEpoch hod hdd ?_)
  rw [if_neg (by simp)]
  refine wpAny_pure ?_
  have hge : es.size ≤ i := by rw [hsz]; omega
  simp only [show ¬ ((i : Int) < 0) from by omega, if_false, Int.toNat_natCast, Array.getElem?_eq_none hge]
  refine wpAny_bind ?_
  first | refine wpAny_bind (wpAny_typeNameOfWhole_keyiter hit.typeIs (wpAny_pure ?_)) | refine wpAny_bind (wpAny_typeNameOf_keyiter hit.typeIs (wpAny_pure ?_))
  show wpAny _ _ (setField (.ref it) 0 .none >>= _) _ _ s
  refine wpAny_bind (wpAny_setField ho hd (by simp) ?_)
  show wpAny _ _ (newExc (.type "StopIteration") [] >>= _) _ _ _
  refine wpAny_bind ?_
  simp only [newExc, newTuple]
  refine wpAny_bind (wpAny_newObj_type ?_ (by size_fits))
  refine wpAny_bind (m := firstArgMember _ _) (wpAny_of_eq (a := Value.none) (by first | rfl | (simp only [firstArgMember]; rfl)) ?_)
  refine wpAny_newObj_type ?_ (by size_fits)
  have hs : Heap.SameBut it s.heap (s.heap.update it (Obj.mapFields (·.setIfInBounds 0 Value.none))) := Heap.SameBut.update ..
  have ho' := Heap.get?_update_self (Obj.mapFields (·.setIfInBounds 0 Value.none)) ho (Obj.isFreed_of_fields (Obj.data_mapFields hd _))
  have F1 : Fr h₀ L (s.heap.update it (Obj.mapFields (·.setIfInBounds 0 Value.none))) m := F.change hs hm.2.1 hm.2.2
  have N1 := (show News h₀ L s.heap (pre ++ (it, io) :: post) from hl ▸ N).setIn a b hs ho'
  rw [← hg] at N1
  generalize hh1 : s.heap.update it (Obj.mapFields (·.setIfInBounds 0 Value.none)) = h1 at *
  dsimp only
  refine' raise_pushed (s := s) (A := A.in1.in1) hh ?ka ?kb ?kc ?kd
  case ka => rfl
  case kb => rw [Array.getElem?_append_left (by simp)]; rfl
  case kc => rw [Array.getElem?_append_left (by simp)]; rfl
  case kd => exact fun h' e x => h h1 h' _ e F1 N1 x
theorem notTuple_Stop : isSubtype (.type ((Manifest.find? "StopIteration").elim "type" fun y => y.metatype)) (.type "tuple") = pure false := by rw [isSubtype_type]; kernel_rfl
open Builtin Builtin.ObjectAttr Builtin.Getset_descriptor in
theorem clsname_get {prog : Program} {w : World} {A : Around} {s : Shared} {K : Frag} {R : Result → Shared → Prop} {C : Addr} {o : Obj} {tp mc v : Value} (X : K.In s.heap) (ht : typeIn K (.ref C) = some mc) (hs : subIn K mc (.type "type") = some true) (ho : s.heap.get? C = some o) (hv : o.slots[2]? = some (some v)) (h : R (.ok (.ret v)) s) :
    codeAny (model prog w) A (.call (.builtin "getset_descriptor.__get__") ⟨[.builtin "type.__name__", .ref C, tp], []⟩) R s := by
  obtain ⟨hh, g, dr, t, os⟩ := s
  have L0 : Looks (model prog w) hh (typeOf (.ref C)) mc := looks_typeIn X ht
  have L1 : Looks (model prog w) hh (isSubtype mc (.type "type")) true := looks_subIn X hs
  refine codeAny_call_builtin KF.slot_gs.plain KF.entry_gs (KF.slot_gs.check _ _ _ _ _ _ _ _ ktyn_type (KF.args_gs _ _ _) ?_)
  unfold Builtin.«getset_descriptor.__get__» descrGet
  rw [show descrGetArgs ⟨[.builtin "type.__name__", .ref C, tp], []⟩ = pure (.builtin "type.__name__", some (.ref C), given tp) from by kernel_rfl]
  refine wpAny_bind (wpAny_pure ?_)
  unfold descrGetter descrCheckInstance descrNameAndClass isInstance
  simp only [ktyn_owner]
  repeat lk
  refine ⟨Code.quiet_builtin _ (by decide +kernel), codeAny_builtin ktyn_entry ?_⟩
  unfold Builtin.«type.__name__»
  dsimp only
  unfold keptObject slotAt
  dsimp only
  refine wpAny_bind (wpAny_bind (wpAny_loadPart ho ?_))
  rw [hv]
  exact wpAny_pure (wpAny_pure h)
theorem clsname_attr {prog : Program} {w : World} {A : Around} {E : Value → Shared → Prop} {s : Shared} {K : Frag} {h₀ : Heap} {L C : Addr} {m : Str → Option Value} {mc : Value} {nm : Str} {expr : Bool} {Q : Value → Shared → Prop} (F : Fr h₀ L s.heap m) (X₀ : K.In h₀) (_ : typeIn K (.ref C) = some mc) (hr : readsIn K C mc = true)
    (e : findCls K (.ref C) mc "__name__" = some (.get (.builtin "getset_descriptor.__get__") (.builtin "type.__name__") (.ref C) mc))
    (hn : (K.lookup C).any (fun o : Obj => match (o.slots[2]? : Option (Option Value)) with | some (some (.str n _)) => n == nm | _ => false) = true)
    (h : ∀ tk u, Q (.str nm tk) { s with toks := u }) : wpAny (model prog w) A (getAttr (.ref C) "__name__" expr) Q E s := by
  have X := X₀.keeps F.keep
  have hr' := hr
  simp only [readsIn, Bool.and_eq_true, beq_iff_eq] at hr'
  obtain ⟨⟨⟨⟨a, b⟩, c'⟩, d⟩, f⟩ := hr'
  refine cls_bind X hr e ?_
  cases hl : K.lookup C with
  | none => rw [hl] at hn; cases hn
  | some o =>
    rw [hl] at hn
    simp only [Option.any_some] at hn
    split at hn
    · rename_i n tk hv
      have en : n = nm := by simpa using hn
      subst en
      exact wpAny_call (clsname_get (s := { s with toks := s.toks + 1 }) X b f (X _ _ hl) hv (handed_on rfl (h _ _)))
    · cases hn
theorem lru_name (pp : Params) : ((Mine.top.heap_1 pp).lookup 897).any (fun o : Obj => match (o.slots[2]? : Option (Option Value)) with | some (some (.str n _)) => n == (Str.ofString "LRUCache") | _ => false) = true := by kernel_rfl
end
section
local macro_rules | `(tactic| k_lt $h:ident) => `(tactic| (have k_tl := allLt_of $h; (simp only [AllLt, and_true] at k_tl); (repeat (replace k_tl := And.right k_tl)); replace $h := allLt_of $h; simp only [AllLt, and_true] at $h:ident))
local macro_rules | `(tactic| k_all) => `(tactic| first | exact Tl.apart (by assumption) |>.ne mem4_1 | exact Tl.apart (by assumption) |>.ne mem4_2 | exact Tl.apart (by assumption) |>.ne mem4_3 | exact Tl.apart (by assumption) |>.ne mem4_4 | exact allLt_ne (by assumption))
local macro_rules | `(tactic| k_room) => `(tactic| ((try simp only [depth_mark, depth_under_make, depth_under_kw, depth_in1, depth_deeper, depth_caller]); omega))
local macro_rules | `(tactic| walk_at "call ref") => `(tactic| (k_here; k_dflt (refine wpAny_call ?_; refine' enter ?k1 ?k2 ?k3 ?k4 ?k5 ?k6 ?k7 ?kA ?kF ?kK ?k8 ?k9 ?kR ?kB ?kL ?_ ?c2 ?c3 ?c4 ?c5; (case k1 => k_asm); (case k2 => k_asm); (case k3 => k_asm); (case k4 => k_asm); (case k5 => k_asm); (case k6 => repeat (first | exact TailAt.here | apply TailAt.cons)); (case k7 => exact four (by k_mem) (by k_mem) (by k_mem) (by k_mem)); (case kA => first | assumption | exact Around.frames_deeper (by assumption) | exact Around.frames_deeper (Around.frames_deeper (by assumption)) | exact Around.frames_deeper (Around.frames_deeper (Around.frames_deeper (by assumption)))); (case kF => first | assumption | rfl); (case kK => first | assumption | rfl); (case k8 => k_is); (case k9 => k_is); (case kR => k_room); (case kB => first | exact BindsTo.of_eq rfl | exact binds_K (by k_in) rfl (by k_is) rfl rfl rfl | fail "enter: no rule for these arguments"); (case kL => exact locs rfl); (case c5 => decide); (case c2 => exact rfl); (case c3 => exact rfl); (case c4 => exact rfl); k_whole; intro frs' L' h' TL' F' N'; (try dsimp only at N' ⊢); (try k_fold))))
local macro_rules | `(tactic| walk_at "LeaveM") => `(tactic| (k_dflt (first
  | (refine' leaveM1 ?k1 ?k2 ?k3 ?k4 ?k5 ?k6 ?k7 ?k8 ?_; (case k1 => assumption); (case k5 => assumption); (case k2 => first | assumption | rfl); (case k3 => assumption); (case k4 => assumption); (case k6 => k_mem); (case k7 => exact kept4 (by assumption) (by k_mem) (by k_mem) (by k_mem) (by k_mem)); (case k8 => (intro q hq; repeat (first | exact hq | refine List.mem_cons_of_mem _ ?_))); k_whole; intro frs' TL' F' N' lt')
  | (refine' leaveM ?k1 ?k2 ?k3 ?k4 ?k5 ?k6 ?_; (case k1 => assumption); (case k2 => first | assumption | rfl); (case k3 => assumption); (case k4 => assumption); (case k5 => exact kept4 (by assumption) (by k_mem) (by k_mem) (by k_mem) (by k_mem)); (case k6 => (intro q hq; repeat (first | exact hq | refine List.mem_cons_of_mem _ ?_))); k_whole; intro frs' TL' F' N')); (try simp only [List.cons_append, List.nil_append] at N'); (try dsimp only)))
local macro_rules | `(tactic| walk_at "compareOp In int ref") => `(tactic| (k_here; k_dflt (refine kda_in (knd := PySem.intKind _ _) (by k_asm) (by k_mem) (by k_asm) (by k_asm) (intKind_is _ _ _ _) _ (by first | assumption | exact isSome_of (by assumption) | exact Option.isSome_eq_false_iff.mpr (Option.isNone_iff_eq_none.mpr (by assumption)) | rfl) ?_)))
local macro_rules | `(tactic| walk_at "getMethod ref") => `(tactic| (k_here; (with_reducible show wpAny _ _ (getMethod (Value.ref _) (Str.ofString "pop") _) _ _ _); k_dflt (refine kob_method (knd := PySem.intKind _ _) PySem.F.slot_dict_pop PySem.F.type_dict_pop (by k_asm) (by k_mem) (by k_asm) ?_)))
local macro_rules | `(tactic| walk_at "getMethod ref") => `(tactic| (k_here; (with_reducible show wpAny _ _ (getMethod (Value.ref _) (Str.ofString "clear") _) _ _ _); k_dflt (refine kob_method (knd := PySem.intKind _ _) PySem.F.slot_dict_clear PySem.F.type_dict_clear (by k_asm) (by k_mem) (by k_asm) ?_)))
local macro_rules | `(tactic| walk_at "call builtin:dict.pop") => `(tactic| (k_here; k_dflt (first
  | (refine' kob_pop (knd := PySem.intKind _ _) (more := []) ?k1 ?k2 ?k3 ?k4 (intKind_is _ _ _ _) (.inl rfl) (by rfl) (PySem.F.args_dict_pop_2 _ _) ?k5 ?k6 ?_; (case k1 => k_asm); (case k2 => k_asm); (case k3 => k_updF); (case k4 => k_asm); (case k5 => assumption); (case k6 => rw [sizeLine_eq]; omega); intro h' o' F' N' hd'; (try dsimp only at N'))
  | (refine' pop_missing ?k0 ?k1 ?k2 ?k3 ?k4 ?k5 ?_; (case k1 => k_asm); (case k2 => k_mem); (case k3 => k_asm); (case k4 => k_asm); (case k5 => assumption); (case k0 => exact HdL.hd (by assumption) (fun q hq => (by assumption : News _ _ _ _) q (by (repeat (first | exact List.mem_append_left _ hq | refine List.mem_cons_of_mem _ ?_))) |>.1)); k_whole; intro h' e' x'))))
local macro_rules | `(tactic| walk_at "setItem ref int") => `(tactic| (k_here; k_dflt (refine' kda_set (knd := PySem.intKind _ _) ?k1 ?k2 ?k3 ?k4 (intKind_is _ _ _ _) ?k5 ?_; (case k1 => k_asm); (case k2 => k_asm); (case k3 => k_updF); (case k4 => k_asm); (case k5 => rw [sizeLine_eq]; (try simp only [List.length_append, List.length_cons, List.length_nil]); omega); intro h' o' F' N' hd'; (try dsimp only at N'))))
local macro_rules | `(tactic| walk_at "delItem ref int") => `(tactic| (k_here; k_dflt (refine' kob_del (knd := PySem.intKind _ _) ?k1 ?k2 ?k3 ?k4 (intKind_is _ _ _ _) ?k5 ?k6 ?_; (case k1 => k_asm); (case k2 => k_asm); (case k3 => k_updF); (case k4 => k_asm); (case k5 => first | assumption | exact isSome_of (by assumption)); (case k6 => rw [sizeLine_eq]; omega); intro h' o' F' N' hd'; (try dsimp only at N'))))
local macro_rules | `(tactic| walk_at "subscriptTail") => `(tactic| (k_here; (with_reducible show wpAny _ _ (subscriptTail _ _ (Value.ref _) (Value.int _ _)) _ _ _); k_dflt (first
  | (refine' kdt_tail (knd := PySem.intKind _ _) ?k1 ?k2 ?k3 (kdt_getItem (knd := PySem.intKind _ _) ?k1 ?k2 ?k3 (intKind_is _ _ _ _) ?k4 ?_); (case k1 => k_asm); (case k2 => k_mem); (case k3 => k_asm); (case k4 => assumption); k_whole)
  | (refine' tail_missing ?k0 ?k1 ?k2 ?k3 ?k4 ?k5 ?_; (case k0 => first | rfl | assumption); (case k1 => k_asm); (case k2 => k_mem); (case k3 => k_asm); (case k4 => k_asm); (case k5 => assumption); k_whole; intro h' e' x'))))
local macro_rules | `(tactic| walk_at "noteFrame ref") => `(tactic| (k_here; k_dflt (first
  | (refine' note_new ?k1 ?k2 ?k3 ?k4 ?k5 ?k6 ?k7 ?k8 ?_; (case k1 => assumption))
  | (refine' note_fly ?k1 ?k2 ?k3 ?k4 ?k5 ?k6 ?k7 ?k8 ?_; (case k1 => assumption))); (case k2 => assumption); (case k3 => assumption); (case k4 => assumption); (case k5 => first | assumption | exact Around.frames_deeper (by assumption) | exact Around.frames_deeper (Around.frames_deeper (by assumption)) | exact Around.frames_deeper (Around.frames_deeper (Around.frames_deeper (by assumption)))); (case k6 => exact kept4 (by assumption) (by k_mem) (by k_mem) (by k_mem) (by k_mem)); (case k7 => (intro q hq; repeat (first | exact hq | refine List.mem_cons_of_mem _ ?_))); (case k8 => rfl); k_whole; intro h' frs' TL' F' N' X'; (try simp only [List.cons_append, List.nil_append] at N' X')))
local macro_rules | `(tactic| walk_at "setFlight ref") => `(tactic| (k_here; k_dflt (refine' land_fly ?k1 ?k2 ?k3 ?_; (case k1 => assumption); (case k2 => assumption); (case k3 => assumption); k_whole; intro h' F' N' X')))
local macro_rules | `(tactic| walk_at "handleBy ref") => `(tactic| (k_here; k_dflt (first
  | (refine' handle_hit (T' := "KeyError") ?k1 ?k2 ?k3 ?k4 ?k5 ?k6 PyProof.Rows.Boot.«KeyError» ?k7 kr_isExc_KeyError kr_notTuple_KeyError ?k8 ?_ ?c1 ?c2 ?c3 ?c4; (case k1 => assumption); (case k2 => assumption); (case k3 => assumption); (case k4 => assumption); (case k5 => assumption); (case k6 => k_is); (case k7 => decide); (case k8 => rw [isSubtype_type]; kernel_rfl); (case c1 => rfl); (case c2 => rfl); (case c3 => decide); (case c4 => passes_own); k_whole)); intro h' oe' vs' F' N' hE' hv1' hv2'))
local macro_rules | `(tactic| walk_at "leaving ref") => `(tactic| (k_here; k_dflt (first
  | (refine' leave_new ?k1 ?k2 ?k3 ?k4 ?k9 ?k5 ?k6 ?k7 ?k8 ?_; (case k1 => assumption))
  | (refine' leave_fly ?k1 ?k2 ?k3 ?k4 ?k9 ?k5 ?k6 ?k7 ?k8 ?_; (case k1 => assumption))); (case k2 => assumption); (case k3 => assumption); (case k4 => assumption); (case k9 => first | assumption | rfl); (case k5 => first | assumption | exact Around.frames_deeper (by assumption) | exact Around.frames_deeper (Around.frames_deeper (by assumption)) | exact Around.frames_deeper (Around.frames_deeper (Around.frames_deeper (by assumption)))); (case k6 => exact kept4a (by k_mem) (by k_mem) (by k_mem) (by k_mem)); (case k7 => (intro q hq; repeat (first | exact hq | refine List.mem_cons_of_mem _ ?_))); (case k8 => rfl); k_whole; intro h' frs' TL' F' N' X'; (try simp only [List.cons_append, List.nil_append] at N' X'); (try dsimp only)))
local macro_rules | `(tactic| walk_at "delItem ref") => `(tactic| (k_here; (with_reducible show wpAny _ _ (delItem (Value.ref _) _) _ _ _); k_dflt (refine' del_inst ?k1 ?k2 ?k3 ?k4 ?k5 ?k6 ?_; (case k1 => k_asm); (case k2 => k_asm); (case k3 => k_inst); (case k4 => k_is); (case k5 => k_is); (case k6 => k_is); k_whole)))
local macro_rules | `(tactic| walk_at "WhlIf") => `(tactic| first | (refine WhlIf.yes (decide_eq_true (by omega)) ?_) | (refine WhlIf.no (decide_eq_false (by omega)) ?_))
local macro_rules | `(tactic| walk_at "delItem ref int") => `(tactic| (k_here; k_dflt (refine' del_missing ?k0 ?k1 ?k2 ?k3 ?k4 ?k5 ?_; (case k0 => first | rfl | assumption); (case k1 => k_asm); (case k2 => k_mem); (case k3 => k_asm); (case k4 => k_asm); (case k5 => assumption); k_whole; intro h' e' x')))
local macro_rules | `(tactic| walk_at "compareOp Is str ref") => `(tactic| refine is_str_ref ?_)
local macro_rules | `(tactic| walk_at "call ref") => `(tactic| (k_here; (with_reducible show wpAny _ _ (call (Value.ref 873) _) _ _ _); k_dflt (refine' delitem_ok ?k1 ?k2 ?k3 ?k4 ?k5 ?k6 ?k7 ?k8 ?k9 ?_; (case k2 => assumption); (case k3 => assumption); (case k4 => assumption); (case k1 => exact ⟨by assumption, by assumption, by (first | assumption | exact Around.frames_deeper (by assumption) | exact Around.frames_deeper (Around.frames_deeper (by assumption)) | exact Around.frames_deeper (Around.frames_deeper (Around.frames_deeper (by assumption)))), by (first | assumption | rfl), by (first | assumption | rfl), by k_room⟩); (case k5 => exact ⟨_, _, _, _, _, _, _, _, _, _, _, _, by (first | assumption | exact cb_drop (by assumption) (by intro q hq; repeat (first | exact hq | refine List.mem_cons_of_mem _ ?_))), by assumption, by assumption⟩); (case k6 => assumption); (case k7 => assumption); (case k8 => omega); (case k9 => omega); k_whole; intro h' tk' frs' TL' F' S'; obtain ⟨_, _, _, _, _, _, _, _, _, _, _, _, N', hD', hO'⟩ := S'; (try dsimp only))))
local macro_rules | `(tactic| walk_at "call ref") => `(tactic| (k_here; (with_reducible show wpAny _ _ (call (Value.ref 749) _) _ _ _); k_dflt (refine' contains_ok ?k1 ?k2 ?k3 ?k4 ?k5 ?_; (case k2 => assumption); (case k3 => assumption); (case k4 => assumption); (case k1 => exact ⟨by assumption, by assumption, by (first | assumption | exact Around.frames_deeper (by assumption) | exact Around.frames_deeper (Around.frames_deeper (by assumption)) | exact Around.frames_deeper (Around.frames_deeper (Around.frames_deeper (by assumption)))), by (first | assumption | rfl), by (first | assumption | rfl), by k_room⟩); (case k5 => exact ⟨_, _, _, _, _, _, _, _, _, _, _, _, by (first | assumption | exact cb_drop (by assumption) (by intro q hq; repeat (first | exact hq | refine List.mem_cons_of_mem _ ?_))), by assumption, by assumption⟩); k_whole; intro h' tk' frs' TL' F' S'; obtain ⟨_, _, _, _, _, _, _, _, _, _, _, _, N', hD', hO'⟩ := S'; (try dsimp only); (first | rw [isSome_of (by assumption)] | rw [Option.isSome_eq_false_iff.mpr (Option.isNone_iff_eq_none.mpr (by assumption))] | skip))))
local macro_rules | `(tactic| walk_at "call ref") => `(tactic| (k_here; (with_reducible show wpAny _ _ (call (Value.ref 857) _) _ _ _); k_dflt (refine' getitem_ok ?k1 ?k2 ?k3 ?k4 ?k5 ?k6 ?k7 ?k8 ?k9 ?_; (case k2 => assumption); (case k3 => assumption); (case k4 => assumption); (case k1 => exact ⟨by assumption, by assumption, by (first | assumption | exact Around.frames_deeper (by assumption) | exact Around.frames_deeper (Around.frames_deeper (by assumption)) | exact Around.frames_deeper (Around.frames_deeper (Around.frames_deeper (by assumption)))), by (first | assumption | rfl), by (first | assumption | rfl), by k_room⟩); (case k5 => exact ⟨_, _, _, _, _, _, _, _, _, _, _, _, by (first | assumption | exact cb_drop (by assumption) (by intro q hq; repeat (first | exact hq | refine List.mem_cons_of_mem _ ?_))), by assumption, by assumption⟩); (case k6 => assumption); (case k7 => assumption); (case k8 => omega); (case k9 => omega); k_whole; intro h' tk' frs' TL' F' S'; obtain ⟨_, _, _, _, _, _, _, _, _, _, _, _, N', hD', hO'⟩ := S'; (try dsimp only))))
local macro_rules | `(tactic| walk_at "call ref") => `(tactic| (k_here; (with_reducible show wpAny _ _ (call (Value.ref 865) _) _ _ _); k_dflt (first | (refine' sethit_ok ?k1 ?k2 ?k3 ?k4 ?k5 ?k6 ?k7 ?k8 ?k9 ?k10 ?_; (case k2 => assumption); (case k3 => assumption); (case k4 => assumption); (case k1 => exact ⟨by assumption, by assumption, by (first | assumption | exact Around.frames_deeper (by assumption) | exact Around.frames_deeper (Around.frames_deeper (by assumption)) | exact Around.frames_deeper (Around.frames_deeper (Around.frames_deeper (by assumption)))), by (first | assumption | rfl), by (first | assumption | rfl), by k_room⟩); (case k5 => exact ⟨_, _, _, _, _, _, _, _, _, _, _, _, by (first | assumption | exact cb_drop (by assumption) (by intro q hq; repeat (first | exact hq | refine List.mem_cons_of_mem _ ?_))), by assumption, by assumption⟩); (case k7 => assumption); (case k8 => assumption); (case k6 => omega); (case k9 => omega); (case k10 => omega); k_whole; intro h' tk' frs' TL' F' S'; obtain ⟨_, _, _, _, _, _, _, _, _, _, _, _, N', hD', hO'⟩ := S'; (try dsimp only)) | (refine' setmiss_ok ?k1 ?k2 ?k3 ?k4 ?k5 ?k6 ?k7 ?k8 ?_; (case k2 => assumption); (case k3 => assumption); (case k4 => assumption); (case k1 => exact ⟨by assumption, by assumption, by (first | assumption | exact Around.frames_deeper (by assumption) | exact Around.frames_deeper (Around.frames_deeper (by assumption)) | exact Around.frames_deeper (Around.frames_deeper (Around.frames_deeper (by assumption)))), by (first | assumption | rfl), by (first | assumption | rfl), by k_room⟩); (case k5 => exact ⟨_, _, _, _, _, _, _, _, _, _, _, _, by (first | assumption | exact cb_drop (by assumption) (by intro q hq; repeat (first | exact hq | refine List.mem_cons_of_mem _ ?_))), by assumption, by assumption⟩); (case k6 => assumption); (case k7 => assumption); (case k8 => assumption); k_whole; intro h' tk' frs' TL' F' S'; obtain ⟨_, _, _, _, _, _, _, _, _, _, _, _, N', hD', hO'⟩ := S'; (try dsimp only)))))
local macro_rules | `(tactic| walk_at "call builtin:dict.clear") => `(tactic| (k_here; k_dflt (refine' clear_ok ?k1 ?k2 ?k3 ?k4 ?k5 ?_; (case k1 => k_asm); (case k2 => k_asm); (case k3 => k_updF); (case k4 => k_asm); (case k5 => rw [sizeLine_eq]; omega); intro h' o' F' N' hd'; (try dsimp only at N'))))
local macro_rules | `(tactic| walk_at "handleBy ref") => `(tactic| (k_here; k_dflt (first
  | (refine' handle_hit (T' := "KeyError") ?k1 ?k2 ?k3 ?k4 ?k5 ?k6 PyProof.Rows.Boot.«KeyError» ?k7 kr_isExc_KeyError kr_notTuple_KeyError ?k8 ?_ ?c1 ?c2 ?c3 ?c4; (case k1 => assumption); (case k2 => assumption); (case k3 => assumption); (case k4 => assumption); (case k5 => assumption); (case k6 => k_is); (case k7 => decide); (case k8 => rw [isSubtype_type]; kernel_rfl); (case c1 => rfl); (case c2 => rfl); (case c3 => decide); (case c4 => passes_own); k_whole)); intro h' oe' vs' F' N' hE' hv1' hv2'; first | (obtain ⟨r', er', TL', N'', H'⟩ := hold1 (by assumption) N' hE' hv1' hv2' (by assumption) rfl) | (obtain ⟨r', er', TL', N'', H', H0'⟩ := hold0 (by assumption) N' hE' hv1' hv2')))
local macro_rules | `(tactic| walk_at "exec Raise some none") => `(tactic| (k_here; refine raiseX ?_))
local macro_rules | `(tactic| walk_at "call type:KeyError") => `(tactic| (k_here; k_dflt (refine' call_excX excClass_KeyError ?k0 ?_; (case k0 => exact HdL.hd (by assumption) (fun q hq => (by assumption : News _ _ _ _) q (by (repeat (first | exact List.mem_append_left _ hq | refine List.mem_cons_of_mem _ ?_))) |>.1)); k_whole; intro h' e' x')))
local macro_rules | `(tactic| walk_at "call builtin:next") => `(tactic| (k_here; (with_reducible show wpAny _ _ (call (Value.builtin "next") [Value.ref _]) _ _ _); k_dflt (refine' next_end ?h0 ?F ?N ?U ?i ?a ?p ?_; (case h0 => first | rfl | assumption); (case F => k_asm); (case N => k_asm); (case U => k_updF); (case i => k_asm); (case a => k_asm); (case p => k_mem); k_whole; intro h1' h' o' e' F' N' x'; (try dsimp only at N'))))
local macro_rules | `(tactic| walk_at "handleBy ref") => `(tactic| (k_here; k_dflt (first
  | (refine' handle_hit (T' := "StopIteration") ?k1 ?k2 ?k3 ?k4 ?k5 ?k6 PyProof.Rows.Boot.«StopIteration» ?k7 owsi_raise.isExc notTuple_Stop ?k8 ?_ ?c1 ?c2 ?c3 ?c4; (case k1 => assumption); (case k2 => assumption); (case k3 => assumption); (case k4 => assumption); (case k5 => assumption); (case k6 => k_is); (case k7 => decide); (case k8 => rw [isSubtype_type]; kernel_rfl); (case c1 => rfl); (case c2 => rfl); (case c3 => decide); (case c4 => passes_own); k_whole)); intro h' oe' vs' F' N' hE' hv1' hv2'; obtain ⟨r', er', TL', N'', H', H0'⟩ := hold0 (by assumption) N' hE' hv1' hv2'))
local macro_rules | `(tactic| walk_at "exec Raise some some") => `(tactic| (k_here; refine raiseFromX ?_))
local macro_rules | `(tactic| walk_at "getAttr ref true") => `(tactic| (k_here; (with_reducible show wpAny _ _ (getAttr (Value.ref _) "__name__" _) _ _ _); k_dflt (refine' clsname_attr ?k1 ?k2 ?k3 ?k4 ?k5 (lru_name _) ?_; (case k1 => k_asm); (case k2 => k_asm); (case k3 => k_is); (case k4 => k_is); (case k5 => k_is); k_whole; intro _ _)))
section
variable {prog : Program} {w : World} {A : Around} {E : Value → Shared → Prop} {s : Shared} {L x dx D O : Addr} {hb : Heap} {m mg mb : Str → Option Value} {rest frs : Led} {p : Program} {loose : List Str} {mean : ExcName → Option Value} {l : FrL} {env : Env}
  {mx : Int} {kvs ovs : List (Int × Value)} {k : Int} {t : Tok} {Q : Value → Shared → Prop}
theorem deed_n {vb : Int} {tv : Tok} {wv : Int} {tw : Tok} (C : Cx 26 w A hb L env l p loose mean mg mb) (P : Apt x dx D O) (F : Fr hb L s.heap m) (TL : Tl hb [x, dx, D, O] l rest frs) (S : Cache prog w hb L s.heap x dx D O mx kvs ovs (rest ++ frs)) (Hn : A.handled = none)
    (ch : Coh mx kvs ovs) (b : vb = 10) (eo : ovs = [])
    (hQ : ∀ h' tk' frs' tr, Tl hb [x, dx, D, O] l rest frs' → Fr hb L h' m → Cache prog w hb L h' x dx D O mx kvs ovs (rest ++ frs') → Q (.str (Str.ofString "lost") tr) { s with heap := h', toks := tk' }) :
    wpAny (model prog w) A (call (.ref 906) [.ref x, .int vb tv, (.int k t), .int wv tw]) Q E s := by
  subst b
  subst eo
  obtain ⟨X, T, hA, hf, hke, hdep⟩ := C
  obtain ⟨h1, h2, h3, h4, t1, t2, t3, t4, tc, tm, oD, oO, N, hD, hO⟩ := S
  have P0 := P
  obtain ⟨g1, g2, g3, loD, loO⟩ := P
  replace g1 := ltN g1
  replace g2 := ltN g2
  replace g3 := ltN g3
  have H : HdL A.handled rest := .inl Hn
  have c1 := ch.ln
  have c2 := ch.le
  have c3 := ch.m1
  have c4 := ch.m4
  have z1 : kvs.length ≤ 8 := by omega
  k_steps
  subst_vars
  exact hQ _ _ _ _ (Tl.dropRest (Tl.dropRest (by assumption))) (by assumption) ⟨_, _, _, _, _, _, _, _, _, _, _, _, drop5 (drop5 (by assumption)), by assumption, by assumption⟩
end
end
section
theorem mem2_1 {a b : Addr} : a ∈ [a, b] := .head _
theorem mem2_2 {a b : Addr} : b ∈ [a, b] := .tail _ (.head _)
theorem two {x dx : Addr} {ox odx : Obj} {news : Led} (h1 : (x, ox) ∈ news) (h2 : (dx, odx) ∈ news) : ∀ a ∈ [x, dx], ∃ o, (a, o) ∈ news := by
  intro a ha
  simp only [List.mem_cons, List.not_mem_nil, or_false] at ha
  rcases ha with rfl | rfl
  · exact ⟨_, h1⟩
  · exact ⟨_, h2⟩
theorem kept2 {hb : Heap} {x dx : Addr} {ox odx : Obj} {news rest frs : Led} {l : FrL} (TL : Tl hb [x, dx] l rest frs) (h1 : (x, ox) ∈ news) (h2 : (dx, odx) ∈ news) : ∀ q ∈ [(x, ox), (dx, odx)], q ∈ news ∧ ∀ z ∈ frs, z.1 ≠ q.1 := by
  intro q hq
  simp only [List.mem_cons, List.not_mem_nil, or_false] at hq
  rcases hq with rfl | rfl
  · exact ⟨h1, TL.ne mem2_1⟩
  · exact ⟨h2, TL.ne mem2_2⟩
theorem kept3 {hb : Heap} {x dx D : Addr} {ox odx oD : Obj} {news rest frs : Led} {l : FrL} (TL : Tl hb [x, dx, D] l rest frs) (h1 : (x, ox) ∈ news) (h2 : (dx, odx) ∈ news) (h3 : (D, oD) ∈ news) : ∀ q ∈ [(x, ox), (dx, odx), (D, oD)], q ∈ news ∧ ∀ z ∈ frs, z.1 ≠ q.1 := by
  intro q hq
  simp only [List.mem_cons, List.not_mem_nil, or_false] at hq
  rcases hq with rfl | rfl | rfl
  · exact ⟨h1, TL.ne (.head _)⟩
  · exact ⟨h2, TL.ne (.tail _ (.head _))⟩
  · exact ⟨h3, TL.ne (.tail _ (.tail _ (.head _)))⟩
theorem Tl.addAs {hb : Heap} {as : List Addr} {l : FrL} {rest frs : Led} {d : Addr} (TL : Tl hb as l rest frs) (h : AllLt d (rest ++ frs)) : Tl hb (as ++ [d]) l rest frs :=
  ⟨TL.are, fun q hq hm => by
    rcases List.mem_append.mp hm with hm | hm
    · exact TL.apart q hq hm
    · exact allLt_ne h q hq (List.mem_singleton.mp hm), TL.sep⟩
theorem frames_underB {A : Around} {a : Args} {l : List Env} (h : A.frames = some l) : (A.under (.builtin "type.__call__" a)).frames = some l := by
  unfold Around.under
  dsimp only
  rw [show (Code.builtin "type.__call__" a).envs = [] from rfl]
  exact h
theorem allLt_trans {a b : Addr} {l : Led} (h : AllLt a l) (hb : a < b) : AllLt b l := allLt_of fun p hp => Nat.lt_trans (allLt_mem h p hp) hb
theorem mv4 {hb h : Heap} {L : Addr} {t a b c : Addr × Obj} {tl : Led} (N : News hb L h (t :: a :: b :: c :: tl)) : News hb L h (a :: b :: c :: t :: tl) := fun q hq => N q (by
  simp only [List.mem_cons] at hq ⊢
  rcases hq with h | h | h | h | h <;> simp [h])
theorem allLt_rest {d : Addr} {rest frs : Led} (h : AllLt d (rest ++ frs)) : ∀ q ∈ rest, q.1 < d := fun q hq => allLt_mem h q (List.mem_append_left _ hq)
theorem ints_kf : ∀ {vs : List Value} {ns : List Int}, IntsAre vs ns → kf_ints vs = true
  | _, _, .nil => rfl
  | _, _, .cons (vs := vs) _ _ h => show kf_ints vs = true from ints_kf h
theorem isInt_int {k a : Int} {u : Tok} : isInt k (.int a u) = (a == k) := rfl
theorem ints_any {k : Int} : ∀ {vs : List Value} {ns : List Int}, IntsAre vs ns → vs.any (isInt k) = decide (k ∈ ns)
  | _, _, .nil => by simp
  | _, _, .cons n t h => by
    rw [List.any_cons, ints_any h, isInt_int]
    by_cases e : n = k
    · subst e; simp
    · simp [e, Ne.symm e]
theorem ints_at {k : Int} : ∀ {vs : List Value} {ns : List Int}, IntsAre vs ns → k ∈ ns → kf_at k vs = some (ns.idxOf k)
  | _, _, .nil, h => nomatch h
  | _, _, .cons n t hi, h => by
    unfold kf_at
    rw [isInt_int, List.idxOf_cons]
    by_cases e : n = k
    · subst e; simp
    · have hk : k ∈ _ := (List.mem_cons.mp h).resolve_left (Ne.symm e)
      rw [ints_at hi hk]
      have : (n == k) = false := by simpa using e
      simp [this]
theorem two_temps {hb : Heap} {L L' a b t1 t2 : Addr} {oa ob o1 o2 : Obj} {m m' : Str → Option Value} {l : FrL} {env : Env} {rest frs : Led} {news : Led} {v : Value} {R : Result → Shared → Prop} {s' : Shared} (TL : Tl hb [a, b] ((env, m) :: l) rest frs) (hf : env.frame = some L) (F' : Fr hb L' s'.heap m') (N' : News hb L' s'.heap ((t1, o1) :: (t2, o2) :: news)) (h1 : AllLt t1 (rest ++ frs)) (h2 : AllLt t2 (rest ++ frs)) (ha : (a, oa) ∈ (t1, o1) :: (t2, o2) :: news) (hb' : (b, ob) ∈ (t1, o1) :: (t2, o2) :: news) (htl : ∀ q ∈ rest ++ frs, q ∈ (t1, o1) :: (t2, o2) :: news)
    (k : ∀ frs', Tl hb [a, b] l rest frs' → Fr hb L s'.heap m → News hb L s'.heap ((t1, o1) :: (t2, o2) :: (a, oa) :: (b, ob) :: (rest ++ frs')) → AllLt t1 (rest ++ frs') → AllLt t2 (rest ++ frs') → R (.ok (.ret v)) s') : LeaveM hb L m R v s' :=
  let ⟨frs', x1, x2, x3, x4⟩ := back (ex := [(t1, o1), (t2, o2), (a, oa), (b, ob)]) TL hf F' N' (fun q hq => by
    simp only [List.mem_cons, List.not_mem_nil, or_false] at hq
    rcases hq with rfl | rfl | rfl | rfl
    · exact ⟨.head _, lt_ne h1⟩
    · exact ⟨.tail _ (.head _), lt_ne h2⟩
    · exact ⟨ha, TL.ne (.head _)⟩
    · exact ⟨hb', TL.ne (.tail _ (.head _))⟩) htl
  k frs' x1 x2 x3 (x4 _ h1) (x4 _ h2)
theorem one_temp {hb : Heap} {L L' a b t1 : Addr} {oa ob o1 : Obj} {m m' : Str → Option Value} {l : FrL} {env : Env} {rest frs : Led} {news : Led} {v : Value} {R : Result → Shared → Prop} {s' : Shared} (TL : Tl hb [a, b] ((env, m) :: l) rest frs) (hf : env.frame = some L) (F' : Fr hb L' s'.heap m') (N' : News hb L' s'.heap ((t1, o1) :: news)) (h1 : AllLt t1 (rest ++ frs)) (ha : (a, oa) ∈ (t1, o1) :: news) (hb' : (b, ob) ∈ (t1, o1) :: news) (htl : ∀ q ∈ rest ++ frs, q ∈ (t1, o1) :: news)
    (k : ∀ frs', Tl hb [a, b] l rest frs' → Fr hb L s'.heap m → News hb L s'.heap ((t1, o1) :: (a, oa) :: (b, ob) :: (rest ++ frs')) → AllLt t1 (rest ++ frs') → R (.ok (.ret v)) s') : LeaveM hb L m R v s' :=
  let ⟨frs', x1, x2, x3, x4⟩ := back (ex := [(t1, o1), (a, oa), (b, ob)]) TL hf F' N' (fun q hq => by
    simp only [List.mem_cons, List.not_mem_nil, or_false] at hq
    rcases hq with rfl | rfl | rfl
    · exact ⟨.head _, lt_ne h1⟩
    · exact ⟨ha, TL.ne (.head _)⟩
    · exact ⟨hb', TL.ne (.tail _ (.head _))⟩) htl
  k frs' x1 x2 x3 (x4 _ h1)
end
section
local macro_rules | `(tactic| k_lt $h:ident) => `(tactic| (have k_tl := allLt_of $h; (simp only [AllLt, and_true] at k_tl); (repeat (replace k_tl := And.right k_tl)); replace $h := allLt_of $h; simp only [AllLt, and_true] at $h:ident))
local macro_rules | `(tactic| k_all) => `(tactic| first | exact Tl.apart (by assumption) |>.ne mem4_1 | exact Tl.apart (by assumption) |>.ne mem4_2 | exact Tl.apart (by assumption) |>.ne mem4_3 | exact Tl.apart (by assumption) |>.ne mem4_4 | exact allLt_ne (by assumption))
local macro_rules | `(tactic| k_room) => `(tactic| ((try simp only [depth_mark, depth_under_make, depth_under_kw, depth_in1, depth_deeper, depth_caller]); omega))
local macro_rules | `(tactic| walk_at "call ref") => `(tactic| (k_here; k_dflt (refine wpAny_call ?_; refine' enter ?k1 ?k2 ?k3 ?k4 ?k5 ?k6 ?k7 ?kA ?kF ?kK ?k8 ?k9 ?kR ?kB ?kL ?_ ?c2 ?c3 ?c4 ?c5; (case k1 => k_asm); (case k2 => k_asm); (case k3 => k_asm); (case k4 => k_asm); (case k5 => k_asm); (case k6 => repeat (first | exact TailAt.here | apply TailAt.cons)); (case k7 => exact four (by k_mem) (by k_mem) (by k_mem) (by k_mem)); (case kA => first | assumption | exact Around.frames_deeper (by assumption) | exact Around.frames_deeper (Around.frames_deeper (by assumption)) | exact Around.frames_deeper (Around.frames_deeper (Around.frames_deeper (by assumption)))); (case kF => first | assumption | rfl); (case kK => first | assumption | rfl); (case k8 => k_is); (case k9 => k_is); (case kR => k_room); (case kB => first | exact BindsTo.of_eq rfl | exact binds_K (by k_in) rfl (by k_is) rfl rfl rfl | fail "enter: no rule for these arguments"); (case kL => exact locs rfl); (case c5 => decide); (case c2 => exact rfl); (case c3 => exact rfl); (case c4 => exact rfl); k_whole; intro frs' L' h' TL' F' N'; (try dsimp only at N' ⊢); (try k_fold))))
local macro_rules | `(tactic| walk_at "LeaveM") => `(tactic| (k_dflt (first
  | (refine' leaveM1 ?k1 ?k2 ?k3 ?k4 ?k5 ?k6 ?k7 ?k8 ?_; (case k1 => assumption); (case k5 => assumption); (case k2 => first | assumption | rfl); (case k3 => assumption); (case k4 => assumption); (case k6 => k_mem); (case k7 => exact kept4 (by assumption) (by k_mem) (by k_mem) (by k_mem) (by k_mem)); (case k8 => (intro q hq; repeat (first | exact hq | refine List.mem_cons_of_mem _ ?_))); k_whole; intro frs' TL' F' N' lt')
  | (refine' leaveM ?k1 ?k2 ?k3 ?k4 ?k5 ?k6 ?_; (case k1 => assumption); (case k2 => first | assumption | rfl); (case k3 => assumption); (case k4 => assumption); (case k5 => exact kept4 (by assumption) (by k_mem) (by k_mem) (by k_mem) (by k_mem)); (case k6 => (intro q hq; repeat (first | exact hq | refine List.mem_cons_of_mem _ ?_))); k_whole; intro frs' TL' F' N')); (try simp only [List.cons_append, List.nil_append] at N'); (try dsimp only)))
local macro_rules | `(tactic| walk_at "compareOp In int ref") => `(tactic| (k_here; k_dflt (refine kda_in (knd := PySem.intKind _ _) (by k_asm) (by k_mem) (by k_asm) (by k_asm) (intKind_is _ _ _ _) _ (by first | assumption | exact isSome_of (by assumption) | exact Option.isSome_eq_false_iff.mpr (Option.isNone_iff_eq_none.mpr (by assumption)) | rfl) ?_)))
local macro_rules | `(tactic| walk_at "getMethod ref") => `(tactic| (k_here; (with_reducible show wpAny _ _ (getMethod (Value.ref _) (Str.ofString "pop") _) _ _ _); k_dflt (refine kob_method (knd := PySem.intKind _ _) PySem.F.slot_dict_pop PySem.F.type_dict_pop (by k_asm) (by k_mem) (by k_asm) ?_)))
local macro_rules | `(tactic| walk_at "getMethod ref") => `(tactic| (k_here; (with_reducible show wpAny _ _ (getMethod (Value.ref _) (Str.ofString "clear") _) _ _ _); k_dflt (refine kob_method (knd := PySem.intKind _ _) PySem.F.slot_dict_clear PySem.F.type_dict_clear (by k_asm) (by k_mem) (by k_asm) ?_)))
local macro_rules | `(tactic| walk_at "call builtin:dict.pop") => `(tactic| (k_here; k_dflt (first
  | (refine' kob_pop (knd := PySem.intKind _ _) (more := []) ?k1 ?k2 ?k3 ?k4 (intKind_is _ _ _ _) (.inl rfl) (by rfl) (PySem.F.args_dict_pop_2 _ _) ?k5 ?k6 ?_; (case k1 => k_asm); (case k2 => k_asm); (case k3 => k_updF); (case k4 => k_asm); (case k5 => assumption); (case k6 => rw [sizeLine_eq]; omega); intro h' o' F' N' hd'; (try dsimp only at N'))
  | (refine' pop_missing ?k0 ?k1 ?k2 ?k3 ?k4 ?k5 ?_; (case k1 => k_asm); (case k2 => k_mem); (case k3 => k_asm); (case k4 => k_asm); (case k5 => assumption); (case k0 => exact HdL.hd (by assumption) (fun q hq => (by assumption : News _ _ _ _) q (by (repeat (first | exact List.mem_append_left _ hq | refine List.mem_cons_of_mem _ ?_))) |>.1)); k_whole; intro h' e' x'))))
local macro_rules | `(tactic| walk_at "setItem ref int") => `(tactic| (k_here; k_dflt (refine' kda_set (knd := PySem.intKind _ _) ?k1 ?k2 ?k3 ?k4 (intKind_is _ _ _ _) ?k5 ?_; (case k1 => k_asm); (case k2 => k_asm); (case k3 => k_updF); (case k4 => k_asm); (case k5 => rw [sizeLine_eq]; (try simp only [List.length_append, List.length_cons, List.length_nil]); omega); intro h' o' F' N' hd'; (try dsimp only at N'))))
local macro_rules | `(tactic| walk_at "delItem ref int") => `(tactic| (k_here; k_dflt (refine' kob_del (knd := PySem.intKind _ _) ?k1 ?k2 ?k3 ?k4 (intKind_is _ _ _ _) ?k5 ?k6 ?_; (case k1 => k_asm); (case k2 => k_asm); (case k3 => k_updF); (case k4 => k_asm); (case k5 => first | assumption | exact isSome_of (by assumption)); (case k6 => rw [sizeLine_eq]; omega); intro h' o' F' N' hd'; (try dsimp only at N'))))
local macro_rules | `(tactic| walk_at "subscriptTail") => `(tactic| (k_here; (with_reducible show wpAny _ _ (subscriptTail _ _ (Value.ref _) (Value.int _ _)) _ _ _); k_dflt (first
  | (refine' kdt_tail (knd := PySem.intKind _ _) ?k1 ?k2 ?k3 (kdt_getItem (knd := PySem.intKind _ _) ?k1 ?k2 ?k3 (intKind_is _ _ _ _) ?k4 ?_); (case k1 => k_asm); (case k2 => k_mem); (case k3 => k_asm); (case k4 => assumption); k_whole)
  | (refine' tail_missing ?k0 ?k1 ?k2 ?k3 ?k4 ?k5 ?_; (case k0 => first | rfl | assumption); (case k1 => k_asm); (case k2 => k_mem); (case k3 => k_asm); (case k4 => k_asm); (case k5 => assumption); k_whole; intro h' e' x'))))
local macro_rules | `(tactic| walk_at "noteFrame ref") => `(tactic| (k_here; k_dflt (first
  | (refine' note_new ?k1 ?k2 ?k3 ?k4 ?k5 ?k6 ?k7 ?k8 ?_; (case k1 => assumption))
  | (refine' note_fly ?k1 ?k2 ?k3 ?k4 ?k5 ?k6 ?k7 ?k8 ?_; (case k1 => assumption))); (case k2 => assumption); (case k3 => assumption); (case k4 => assumption); (case k5 => first | assumption | exact Around.frames_deeper (by assumption) | exact Around.frames_deeper (Around.frames_deeper (by assumption)) | exact Around.frames_deeper (Around.frames_deeper (Around.frames_deeper (by assumption)))); (case k6 => exact kept4 (by assumption) (by k_mem) (by k_mem) (by k_mem) (by k_mem)); (case k7 => (intro q hq; repeat (first | exact hq | refine List.mem_cons_of_mem _ ?_))); (case k8 => rfl); k_whole; intro h' frs' TL' F' N' X'; (try simp only [List.cons_append, List.nil_append] at N' X')))
local macro_rules | `(tactic| walk_at "setFlight ref") => `(tactic| (k_here; k_dflt (refine' land_fly ?k1 ?k2 ?k3 ?_; (case k1 => assumption); (case k2 => assumption); (case k3 => assumption); k_whole; intro h' F' N' X')))
local macro_rules | `(tactic| walk_at "handleBy ref") => `(tactic| (k_here; k_dflt (first
  | (refine' handle_hit (T' := "KeyError") ?k1 ?k2 ?k3 ?k4 ?k5 ?k6 PyProof.Rows.Boot.«KeyError» ?k7 kr_isExc_KeyError kr_notTuple_KeyError ?k8 ?_ ?c1 ?c2 ?c3 ?c4; (case k1 => assumption); (case k2 => assumption); (case k3 => assumption); (case k4 => assumption); (case k5 => assumption); (case k6 => k_is); (case k7 => decide); (case k8 => rw [isSubtype_type]; kernel_rfl); (case c1 => rfl); (case c2 => rfl); (case c3 => decide); (case c4 => passes_own); k_whole)); intro h' oe' vs' F' N' hE' hv1' hv2'))
local macro_rules | `(tactic| walk_at "leaving ref") => `(tactic| (k_here; k_dflt (first
  | (refine' leave_new ?k1 ?k2 ?k3 ?k4 ?k9 ?k5 ?k6 ?k7 ?k8 ?_; (case k1 => assumption))
  | (refine' leave_fly ?k1 ?k2 ?k3 ?k4 ?k9 ?k5 ?k6 ?k7 ?k8 ?_; (case k1 => assumption))); (case k2 => assumption); (case k3 => assumption); (case k4 => assumption); (case k9 => first | assumption | rfl); (case k5 => first | assumption | exact Around.frames_deeper (by assumption) | exact Around.frames_deeper (Around.frames_deeper (by assumption)) | exact Around.frames_deeper (Around.frames_deeper (Around.frames_deeper (by assumption)))); (case k6 => exact kept4a (by k_mem) (by k_mem) (by k_mem) (by k_mem)); (case k7 => (intro q hq; repeat (first | exact hq | refine List.mem_cons_of_mem _ ?_))); (case k8 => rfl); k_whole; intro h' frs' TL' F' N' X'; (try simp only [List.cons_append, List.nil_append] at N' X'); (try dsimp only)))
local macro_rules | `(tactic| walk_at "call ref") => `(tactic| (k_here; k_dflt (refine wpAny_call ?_; refine' enter ?k1 ?k2 ?k3 ?k4 ?k5 ?k6 ?k7 ?kA ?kF ?kK ?k8 ?k9 ?kR ?kB ?kL ?_ ?c2 ?c3 ?c4 ?c5; (case k1 => k_asm); (case k2 => k_asm); (case k3 => k_asm); (case k4 => k_asm); (case k5 => k_asm); (case k6 => repeat (first | exact TailAt.here | apply TailAt.cons)); (case k7 => exact two (by k_mem) (by k_mem)); (case kA => assumption); (case kF => first | assumption | rfl); (case kK => first | assumption | rfl); (case k8 => k_is); (case k9 => k_is); (case kR => k_room); (case kB => first | exact BindsTo.of_eq rfl | exact binds_K (by k_in) rfl (by k_is) rfl rfl rfl | fail "enter: no rule for these arguments"); (case kL => exact locs rfl); (case c5 => decide); (case c2 => exact rfl); (case c3 => exact rfl); (case c4 => exact rfl); k_whole; intro frs' L' h' TL' F' N'; (try dsimp only at N' ⊢); (try k_fold))))
local macro_rules | `(tactic| walk_at "LeaveM") => `(tactic| (k_dflt (first
  | (refine' two_temps ?k1 ?k2 ?k3 ?k4 ?k5 ?k6 ?k7 ?k8 ?k9 ?_; (case k4 => assumption); (case k1 => assumption); (case k2 => first | assumption | rfl); (case k3 => assumption); (case k5 => assumption); (case k6 => assumption); (case k7 => k_mem); (case k8 => k_mem); (case k9 => (intro q hq; repeat (first | exact hq | refine List.mem_cons_of_mem _ ?_))); k_whole; intro frs' TL' F' N' lt' lt'')
  | (refine' one_temp ?k1 ?k2 ?k3 ?k4 ?k5 ?k7 ?k8 ?k9 ?_; (case k4 => assumption); (case k1 => assumption); (case k2 => first | assumption | rfl); (case k3 => assumption); (case k5 => assumption); (case k7 => k_mem); (case k8 => k_mem); (case k9 => (intro q hq; repeat (first | exact hq | refine List.mem_cons_of_mem _ ?_))); k_whole; intro frs' TL' F' N' lt')); (try dsimp only)))
local macro_rules | `(tactic| walk_at "compareOp In int ref") => `(tactic| (k_here; k_dflt (refine' kf_in ?N ?m ?i ?e ?_; (case N => k_asm); (case m => k_mem); (case i => assumption); (case e => assumption))))
local macro_rules | `(tactic| walk_at "call builtin:list.index") => `(tactic| (k_here; k_dflt (refine' kf_index ?N ?m ?i ?e ?c ?z ?_; (case N => k_asm); (case m => k_mem); (case i => assumption); (case e => assumption); (case c => rfl); (case z => assumption))))
local macro_rules | `(tactic| walk_at "subscriptTail") => `(tactic| (k_here; (with_reducible show wpAny _ _ (subscriptTail _ _ (Value.ref _) (Value.int _ _)) _ _ _); k_dflt (refine' ksa_sub ?k1 ?k2 ?k3 ?k4 ?k5 ?k6 ?_ ?k7; (case k1 => k_asm); (case k2 => k_mem); (case k3 => with_reducible assumption); (case k4 => omega); (case k5 => omega); (case k6 => omega); (case k7 => with_unfolding_all rfl); k_whole); intro _))
local macro_rules | `(tactic| walk_at "call builtin:min") => `(tactic| (k_here; k_dflt (refine' min_two_N ?k1 ?k2 ?k3 ?_; (case k1 => assumption); (case k2 => k_asm); (case k3 => k_asm); k_whole); intro h' tk' F' N'))
local macro_rules | `(tactic| walk_at "no such key 0") => `(tactic| fail)
local macro_rules | `(tactic| walk_at "no such key 1") => `(tactic| fail)
section
variable {prog : Program} {w : World} {A : Around} {E : Value → Shared → Prop} {s : Shared} {L x dx D O : Addr} {hb : Heap} {m mg mb : Str → Option Value} {rest frs : Led} {p : Program} {loose : List Str} {mean : ExcName → Option Value} {l : FrL} {env : Env}
  {mx : Int} {kvs ovs : List (Int × Value)} {k : Int} {t : Tok} {Q : Value → Shared → Prop}
theorem told_aH {vb kx mx mn : Int} {tv tk tm tn : Tok} {Wa Ra : Addr} {vw vr : List Value} {ws rs : List Int} {nw nr : Nat} (C : Cx 4 w A hb L env l p loose mean mg mb) (F : Fr hb L s.heap m) (TL : Tl hb [Wa, Ra] l rest frs) (N : News hb L s.heap ((Wa, PySem.W.listOf vw.toArray nw) :: (Ra, PySem.W.listOf vr.toArray nr) :: (rest ++ frs)))
    (iw : IntsAre vw ws) (ir : IntsAre vr rs) (hw : ws.length = 6) (hr : rs.length ≤ 6) (hk0 : 0 ≤ kx) (hk1 : kx < 6) (hm0 : 0 ≤ mn) (hm1 : mn ≤ 4) (Hn : A.handled = none) (b : vb < 8) (hin : kx ∈ rs) (hit : (rs.length : Int) - (rs.idxOf kx : Nat) ≤ mn) 
    (hQ : ∀ h' tk' frs' tp (t2 : Addr) (ta tb tc : Tok) (bq : Bool), Tl hb [Wa, Ra] l rest frs' → Fr hb L h' m → News hb L h' ((tp, { cls := .type "tuple", data := .seq #[.bool bq, .int (ws.getD kx.toNat 0) ta, .int (mn) tb] }) :: (Wa, PySem.W.listOf vw.toArray nw) :: (Ra, PySem.W.listOf vr.toArray nr) :: (rest ++ frs')) → AllLt tp (rest ++ frs') → bq = true → Q (.ref tp) { s with heap := h', toks := tk' }) :
    wpAny (model prog w) A (call (.ref 913) [.int vb tv, .int kx tk, .ref Wa, .ref Ra, .int mx tm, .int mn tn]) Q E s := by
  skip
  obtain ⟨X, T, hA, hf, hke, hdep⟩ := C
  have i1 : kf_ints vr.toArray.toList = true := ints_kf ir
  have i2 : vr.toArray.toList.any (isInt kx) = true := by simpa using (ints_any (k := kx) ir).trans (decide_eq_true hin)
  have i4 : vr.toArray.toList.length ≤ sizeLine := by rw [sizeLine_eq]; simp only [ir.length]; omega
  have i5 := ir.length
  have i3 : kf_at kx vr.toArray.toList = some (rs.idxOf kx) := ints_at ir hin
  k_steps
  all_goals first | (exfalso; omega) | exact hQ _ _ _ _ 0 _ _ 0 _ (by assumption) (by assumption) (by assumption) (by assumption) (decide_eq_true (by omega))
theorem told_iH {vb kx mx mn : Int} {tv tk tm tn : Tok} {Wa Ra : Addr} {vw vr : List Value} {ws rs : List Int} {nw nr : Nat} (C : Cx 4 w A hb L env l p loose mean mg mb) (F : Fr hb L s.heap m) (TL : Tl hb [Wa, Ra] l rest frs) (N : News hb L s.heap ((Wa, PySem.W.listOf vw.toArray nw) :: (Ra, PySem.W.listOf vr.toArray nr) :: (rest ++ frs)))
    (iw : IntsAre vw ws) (ir : IntsAre vr rs) (hw : ws.length = 6) (hr : rs.length ≤ 6) (hk0 : 0 ≤ kx) (hk1 : kx < 6) (hm0 : 0 ≤ mn) (hm1 : mn ≤ 4) (Hn : A.handled = none) (b : vb = 8) (hin : kx ∈ rs) (hit : (rs.length : Int) - (rs.idxOf kx : Nat) ≤ mn) 
    (hQ : ∀ h' tk' frs' tp (t2 : Addr) (ta tb tc : Tok) (bq : Bool), Tl hb [Wa, Ra] l rest frs' → Fr hb L h' m → News hb L h' ((tp, { cls := .type "tuple", data := .seq #[.bool bq, .str (Str.ofString "gone") ta, .int (mn - 1) tb] }) :: (Wa, PySem.W.listOf vw.toArray nw) :: (Ra, PySem.W.listOf vr.toArray nr) :: (rest ++ frs')) → AllLt tp (rest ++ frs') → bq = true → Q (.ref tp) { s with heap := h', toks := tk' }) :
    wpAny (model prog w) A (call (.ref 913) [.int vb tv, .int kx tk, .ref Wa, .ref Ra, .int mx tm, .int mn tn]) Q E s := by
  subst b
  obtain ⟨X, T, hA, hf, hke, hdep⟩ := C
  have i1 : kf_ints vr.toArray.toList = true := ints_kf ir
  have i2 : vr.toArray.toList.any (isInt kx) = true := by simpa using (ints_any (k := kx) ir).trans (decide_eq_true hin)
  have i4 : vr.toArray.toList.length ≤ sizeLine := by rw [sizeLine_eq]; simp only [ir.length]; omega
  have i5 := ir.length
  have i3 : kf_at kx vr.toArray.toList = some (rs.idxOf kx) := ints_at ir hin
  k_steps
  all_goals first | (exfalso; omega) | exact hQ _ _ _ _ 0 _ _ 0 _ (by assumption) (by assumption) (by assumption) (by assumption) (decide_eq_true (by omega))
theorem told_aM {vb kx mx mn : Int} {tv tk tm tn : Tok} {Wa Ra : Addr} {vw vr : List Value} {ws rs : List Int} {nw nr : Nat} (C : Cx 4 w A hb L env l p loose mean mg mb) (F : Fr hb L s.heap m) (TL : Tl hb [Wa, Ra] l rest frs) (N : News hb L s.heap ((Wa, PySem.W.listOf vw.toArray nw) :: (Ra, PySem.W.listOf vr.toArray nr) :: (rest ++ frs)))
    (iw : IntsAre vw ws) (ir : IntsAre vr rs) (hw : ws.length = 6) (hr : rs.length ≤ 6) (hk0 : 0 ≤ kx) (hk1 : kx < 6) (hm0 : 0 ≤ mn) (hm1 : mn ≤ 4) (Hn : A.handled = none) (b : vb < 8) (hin : kx ∈ rs) (hit : mn < (rs.length : Int) - (rs.idxOf kx : Nat)) 
    (hQ : ∀ h' tk' frs' tp (t2 : Addr) (ta tb tc : Tok) (bq : Bool), Tl hb [Wa, Ra] l rest frs' → Fr hb L h' m → News hb L h' ((tp, { cls := .type "tuple", data := .seq #[.bool bq, .int (ws.getD kx.toNat 0) ta, .int ((if mn + 1 < mx then mn + 1 else mx)) tb] }) :: (Wa, PySem.W.listOf vw.toArray nw) :: (Ra, PySem.W.listOf vr.toArray nr) :: (rest ++ frs')) → AllLt tp (rest ++ frs') → bq = false → Q (.ref tp) { s with heap := h', toks := tk' }) :
    wpAny (model prog w) A (call (.ref 913) [.int vb tv, .int kx tk, .ref Wa, .ref Ra, .int mx tm, .int mn tn]) Q E s := by
  skip
  obtain ⟨X, T, hA, hf, hke, hdep⟩ := C
  have i1 : kf_ints vr.toArray.toList = true := ints_kf ir
  have i2 : vr.toArray.toList.any (isInt kx) = true := by simpa using (ints_any (k := kx) ir).trans (decide_eq_true hin)
  have i4 : vr.toArray.toList.length ≤ sizeLine := by rw [sizeLine_eq]; simp only [ir.length]; omega
  have i5 := ir.length
  have i3 : kf_at kx vr.toArray.toList = some (rs.idxOf kx) := ints_at ir hin
  k_steps
  all_goals first | (exfalso; omega) | exact hQ _ _ _ _ 0 _ _ 0 _ (by assumption) (by assumption) (by assumption) (by assumption) (decide_eq_false (by omega))
theorem told_iM {vb kx mx mn : Int} {tv tk tm tn : Tok} {Wa Ra : Addr} {vw vr : List Value} {ws rs : List Int} {nw nr : Nat} (C : Cx 4 w A hb L env l p loose mean mg mb) (F : Fr hb L s.heap m) (TL : Tl hb [Wa, Ra] l rest frs) (N : News hb L s.heap ((Wa, PySem.W.listOf vw.toArray nw) :: (Ra, PySem.W.listOf vr.toArray nr) :: (rest ++ frs)))
    (iw : IntsAre vw ws) (ir : IntsAre vr rs) (hw : ws.length = 6) (hr : rs.length ≤ 6) (hk0 : 0 ≤ kx) (hk1 : kx < 6) (hm0 : 0 ≤ mn) (hm1 : mn ≤ 4) (Hn : A.handled = none) (b : vb = 8) (hin : kx ∈ rs) (hit : mn < (rs.length : Int) - (rs.idxOf kx : Nat)) 
    (hQ : ∀ h' tk' frs' tp (t2 : Addr) (ta tb tc : Tok) (bq : Bool), Tl hb [Wa, Ra] l rest frs' → Fr hb L h' m → News hb L h' ((tp, { cls := .type "tuple", data := .seq #[.bool bq, .str (Str.ofString "lost") ta, .int (mn) tb] }) :: (Wa, PySem.W.listOf vw.toArray nw) :: (Ra, PySem.W.listOf vr.toArray nr) :: (rest ++ frs')) → AllLt tp (rest ++ frs') → bq = false → Q (.ref tp) { s with heap := h', toks := tk' }) :
    wpAny (model prog w) A (call (.ref 913) [.int vb tv, .int kx tk, .ref Wa, .ref Ra, .int mx tm, .int mn tn]) Q E s := by
  subst b
  obtain ⟨X, T, hA, hf, hke, hdep⟩ := C
  have i1 : kf_ints vr.toArray.toList = true := ints_kf ir
  have i2 : vr.toArray.toList.any (isInt kx) = true := by simpa using (ints_any (k := kx) ir).trans (decide_eq_true hin)
  have i4 : vr.toArray.toList.length ≤ sizeLine := by rw [sizeLine_eq]; simp only [ir.length]; omega
  have i5 := ir.length
  have i3 : kf_at kx vr.toArray.toList = some (rs.idxOf kx) := ints_at ir hin
  k_steps
  all_goals first | (exfalso; omega) | exact hQ _ _ _ _ 0 _ _ 0 _ (by assumption) (by assumption) (by assumption) (by assumption) (decide_eq_false (by omega))
theorem told_aX {vb kx mx mn : Int} {tv tk tm tn : Tok} {Wa Ra : Addr} {vw vr : List Value} {ws rs : List Int} {nw nr : Nat} (C : Cx 4 w A hb L env l p loose mean mg mb) (F : Fr hb L s.heap m) (TL : Tl hb [Wa, Ra] l rest frs) (N : News hb L s.heap ((Wa, PySem.W.listOf vw.toArray nw) :: (Ra, PySem.W.listOf vr.toArray nr) :: (rest ++ frs)))
    (iw : IntsAre vw ws) (ir : IntsAre vr rs) (hw : ws.length = 6) (hr : rs.length ≤ 6) (hk0 : 0 ≤ kx) (hk1 : kx < 6) (hm0 : 0 ≤ mn) (hm1 : mn ≤ 4) (Hn : A.handled = none) (b : vb < 8) (hin : kx ∉ rs) 
    (hQ : ∀ h' tk' frs' tp (t2 : Addr) (ta tb tc : Tok) (bq : Bool), Tl hb [Wa, Ra] l rest frs' → Fr hb L h' m → News hb L h' ((tp, { cls := .type "tuple", data := .seq #[.bool bq, .int (ws.getD kx.toNat 0) ta, .int ((if mn + 1 < mx then mn + 1 else mx)) tb] }) :: (Wa, PySem.W.listOf vw.toArray nw) :: (Ra, PySem.W.listOf vr.toArray nr) :: (rest ++ frs')) → AllLt tp (rest ++ frs') → bq = false → Q (.ref tp) { s with heap := h', toks := tk' }) :
    wpAny (model prog w) A (call (.ref 913) [.int vb tv, .int kx tk, .ref Wa, .ref Ra, .int mx tm, .int mn tn]) Q E s := by
  skip
  obtain ⟨X, T, hA, hf, hke, hdep⟩ := C
  have i1 : kf_ints vr.toArray.toList = true := ints_kf ir
  have i2 : vr.toArray.toList.any (isInt kx) = false := by simpa using (ints_any (k := kx) ir).trans (decide_eq_false hin)
  have i4 : vr.toArray.toList.length ≤ sizeLine := by rw [sizeLine_eq]; simp only [ir.length]; omega
  have i5 := ir.length
  k_steps
  all_goals first | (exfalso; omega) | exact hQ _ _ _ _ 0 _ _ 0 _ (by assumption) (by assumption) (by assumption) (by assumption) (decide_eq_false (by omega))
theorem told_iX {vb kx mx mn : Int} {tv tk tm tn : Tok} {Wa Ra : Addr} {vw vr : List Value} {ws rs : List Int} {nw nr : Nat} (C : Cx 4 w A hb L env l p loose mean mg mb) (F : Fr hb L s.heap m) (TL : Tl hb [Wa, Ra] l rest frs) (N : News hb L s.heap ((Wa, PySem.W.listOf vw.toArray nw) :: (Ra, PySem.W.listOf vr.toArray nr) :: (rest ++ frs)))
    (iw : IntsAre vw ws) (ir : IntsAre vr rs) (hw : ws.length = 6) (hr : rs.length ≤ 6) (hk0 : 0 ≤ kx) (hk1 : kx < 6) (hm0 : 0 ≤ mn) (hm1 : mn ≤ 4) (Hn : A.handled = none) (b : vb = 8) (hin : kx ∉ rs) 
    (hQ : ∀ h' tk' frs' tp (t2 : Addr) (ta tb tc : Tok) (bq : Bool), Tl hb [Wa, Ra] l rest frs' → Fr hb L h' m → News hb L h' ((tp, { cls := .type "tuple", data := .seq #[.bool bq, .str (Str.ofString "lost") ta, .int (mn) tb] }) :: (Wa, PySem.W.listOf vw.toArray nw) :: (Ra, PySem.W.listOf vr.toArray nr) :: (rest ++ frs')) → AllLt tp (rest ++ frs') → bq = false → Q (.ref tp) { s with heap := h', toks := tk' }) :
    wpAny (model prog w) A (call (.ref 913) [.int vb tv, .int kx tk, .ref Wa, .ref Ra, .int mx tm, .int mn tn]) Q E s := by
  subst b
  obtain ⟨X, T, hA, hf, hke, hdep⟩ := C
  have i1 : kf_ints vr.toArray.toList = true := ints_kf ir
  have i2 : vr.toArray.toList.any (isInt kx) = false := by simpa using (ints_any (k := kx) ir).trans (decide_eq_false hin)
  have i4 : vr.toArray.toList.length ≤ sizeLine := by rw [sizeLine_eq]; simp only [ir.length]; omega
  have i5 := ir.length
  k_steps
  all_goals first | (exfalso; omega) | exact hQ _ _ _ _ 0 _ _ 0 _ (by assumption) (by assumption) (by assumption) (by assumption) (decide_eq_false (by omega))
end
section
variable {prog : Program} {w : World} {A : Around} {E : Value → Shared → Prop} {s : Shared} {L x dx D O : Addr} {hb : Heap} {m mg mb : Str → Option Value} {rest frs : Led} {p : Program} {loose : List Str} {mean : ExcName → Option Value} {l : FrL} {env : Env}
  {mx : Int} {kvs ovs : List (Int × Value)} {k : Int} {t : Tok} {Q : Value → Shared → Prop}
theorem told_kH {vb kx mx mn : Int} {tv tk tm tn : Tok} {Wa Ra : Addr} {vw vr : List Value} {ws rs : List Int} {nw nr : Nat} (C : Cx 4 w A hb L env l p loose mean mg mb) (F : Fr hb L s.heap m) (TL : Tl hb [Wa, Ra] l rest frs) (N : News hb L s.heap ((Wa, PySem.W.listOf vw.toArray nw) :: (Ra, PySem.W.listOf vr.toArray nr) :: (rest ++ frs)))
    (iw : IntsAre vw ws) (ir : IntsAre vr rs) (hw : ws.length = 6) (hr : rs.length ≤ 6) (hk0 : 0 ≤ kx) (hk1 : kx < 6) (hm0 : 0 ≤ mn) (hm1 : mn ≤ 4) (Hn : A.handled = none) (b : vb = 9) (hin : kx ∈ rs) (hit : (rs.length : Int) - (rs.idxOf kx : Nat) ≤ mn) 
    (hQ : ∀ h' tk' frs' tp (t2 : Addr) (ta tb tc : Tok) (bq : Bool), Tl hb [Wa, Ra] l rest frs' → Fr hb L h' m → News hb L h' ((tp, { cls := .type "tuple", data := .seq #[.bool bq, .int (ws.getD kx.toNat 0) ta, .int (mn - 1) tb] }) :: (Wa, PySem.W.listOf vw.toArray nw) :: (Ra, PySem.W.listOf vr.toArray nr) :: (rest ++ frs')) → AllLt tp (rest ++ frs') → bq = true → Q (.ref tp) { s with heap := h', toks := tk' }) :
    wpAny (model prog w) A (call (.ref 913) [.int vb tv, .int kx tk, .ref Wa, .ref Ra, .int mx tm, .int mn tn]) Q E s := by
  subst b
  obtain ⟨X, T, hA, hf, hke, hdep⟩ := C
  have i1 : kf_ints vr.toArray.toList = true := ints_kf ir
  have i2 : vr.toArray.toList.any (isInt kx) = true := by simpa using (ints_any (k := kx) ir).trans (decide_eq_true hin)
  have i4 : vr.toArray.toList.length ≤ sizeLine := by rw [sizeLine_eq]; simp only [ir.length]; omega
  have i5 := ir.length
  have i3 : kf_at kx vr.toArray.toList = some (rs.idxOf kx) := ints_at ir hin
  k_steps
  all_goals first | (exfalso; omega) | exact hQ _ _ _ _ 0 _ _ 0 _ (by assumption) (by assumption) (by assumption) (by assumption) (decide_eq_true (by omega))
theorem told_oH {vb kx mx mn : Int} {tv tk tm tn : Tok} {Wa Ra : Addr} {vw vr : List Value} {ws rs : List Int} {nw nr : Nat} (C : Cx 4 w A hb L env l p loose mean mg mb) (F : Fr hb L s.heap m) (TL : Tl hb [Wa, Ra] l rest frs) (N : News hb L s.heap ((Wa, PySem.W.listOf vw.toArray nw) :: (Ra, PySem.W.listOf vr.toArray nr) :: (rest ++ frs)))
    (iw : IntsAre vw ws) (ir : IntsAre vr rs) (hw : ws.length = 6) (hr : rs.length ≤ 6) (hk0 : 0 ≤ kx) (hk1 : kx < 6) (hm0 : 0 ≤ mn) (hm1 : mn ≤ 4) (Hn : A.handled = none) (b : vb = 11) (hin : kx ∈ rs) (hit : (rs.length : Int) - (rs.idxOf kx : Nat) ≤ mn) 
    (hQ : ∀ h' tk' frs' tp (t2 : Addr) (ta tb tc : Tok) (bq : Bool), Tl hb [Wa, Ra] l rest frs' → Fr hb L h' m → News hb L h' ((tp, { cls := .type "tuple", data := .seq #[.bool bq, .str (Str.ofString "cleared") ta, .int (0) tb] }) :: (Wa, PySem.W.listOf vw.toArray nw) :: (Ra, PySem.W.listOf vr.toArray nr) :: (rest ++ frs')) → AllLt tp (rest ++ frs') → bq = true → Q (.ref tp) { s with heap := h', toks := tk' }) :
    wpAny (model prog w) A (call (.ref 913) [.int vb tv, .int kx tk, .ref Wa, .ref Ra, .int mx tm, .int mn tn]) Q E s := by
  subst b
  obtain ⟨X, T, hA, hf, hke, hdep⟩ := C
  have i1 : kf_ints vr.toArray.toList = true := ints_kf ir
  have i2 : vr.toArray.toList.any (isInt kx) = true := by simpa using (ints_any (k := kx) ir).trans (decide_eq_true hin)
  have i4 : vr.toArray.toList.length ≤ sizeLine := by rw [sizeLine_eq]; simp only [ir.length]; omega
  have i5 := ir.length
  have i3 : kf_at kx vr.toArray.toList = some (rs.idxOf kx) := ints_at ir hin
  k_steps
  all_goals first | (exfalso; omega) | exact hQ _ _ _ _ 0 _ _ 0 _ (by assumption) (by assumption) (by assumption) (by assumption) (decide_eq_true (by omega))
theorem told_kM {vb kx mx mn : Int} {tv tk tm tn : Tok} {Wa Ra : Addr} {vw vr : List Value} {ws rs : List Int} {nw nr : Nat} (C : Cx 4 w A hb L env l p loose mean mg mb) (F : Fr hb L s.heap m) (TL : Tl hb [Wa, Ra] l rest frs) (N : News hb L s.heap ((Wa, PySem.W.listOf vw.toArray nw) :: (Ra, PySem.W.listOf vr.toArray nr) :: (rest ++ frs)))
    (iw : IntsAre vw ws) (ir : IntsAre vr rs) (hw : ws.length = 6) (hr : rs.length ≤ 6) (hk0 : 0 ≤ kx) (hk1 : kx < 6) (hm0 : 0 ≤ mn) (hm1 : mn ≤ 4) (Hn : A.handled = none) (b : vb = 9) (hin : kx ∈ rs) (hit : mn < (rs.length : Int) - (rs.idxOf kx : Nat)) 
    (hQ : ∀ h' tk' frs' tp (t2 : Addr) (ta tb tc : Tok) (bq : Bool), Tl hb [Wa, Ra] l rest frs' → Fr hb L h' m → News hb L h' ((tp, { cls := .type "tuple", data := .seq #[.bool bq, .str (Str.ofString "none") ta, .int (mn) tb] }) :: (Wa, PySem.W.listOf vw.toArray nw) :: (Ra, PySem.W.listOf vr.toArray nr) :: (rest ++ frs')) → AllLt tp (rest ++ frs') → bq = false → Q (.ref tp) { s with heap := h', toks := tk' }) :
    wpAny (model prog w) A (call (.ref 913) [.int vb tv, .int kx tk, .ref Wa, .ref Ra, .int mx tm, .int mn tn]) Q E s := by
  subst b
  obtain ⟨X, T, hA, hf, hke, hdep⟩ := C
  have i1 : kf_ints vr.toArray.toList = true := ints_kf ir
  have i2 : vr.toArray.toList.any (isInt kx) = true := by simpa using (ints_any (k := kx) ir).trans (decide_eq_true hin)
  have i4 : vr.toArray.toList.length ≤ sizeLine := by rw [sizeLine_eq]; simp only [ir.length]; omega
  have i5 := ir.length
  have i3 : kf_at kx vr.toArray.toList = some (rs.idxOf kx) := ints_at ir hin
  k_steps
  all_goals first | (exfalso; omega) | exact hQ _ _ _ _ 0 _ _ 0 _ (by assumption) (by assumption) (by assumption) (by assumption) (decide_eq_false (by omega))
theorem told_oM {vb kx mx mn : Int} {tv tk tm tn : Tok} {Wa Ra : Addr} {vw vr : List Value} {ws rs : List Int} {nw nr : Nat} (C : Cx 4 w A hb L env l p loose mean mg mb) (F : Fr hb L s.heap m) (TL : Tl hb [Wa, Ra] l rest frs) (N : News hb L s.heap ((Wa, PySem.W.listOf vw.toArray nw) :: (Ra, PySem.W.listOf vr.toArray nr) :: (rest ++ frs)))
    (iw : IntsAre vw ws) (ir : IntsAre vr rs) (hw : ws.length = 6) (hr : rs.length ≤ 6) (hk0 : 0 ≤ kx) (hk1 : kx < 6) (hm0 : 0 ≤ mn) (hm1 : mn ≤ 4) (Hn : A.handled = none) (b : vb = 11) (hin : kx ∈ rs) (hit : mn < (rs.length : Int) - (rs.idxOf kx : Nat)) 
    (hQ : ∀ h' tk' frs' tp (t2 : Addr) (ta tb tc : Tok) (bq : Bool), Tl hb [Wa, Ra] l rest frs' → Fr hb L h' m → News hb L h' ((tp, { cls := .type "tuple", data := .seq #[.bool bq, .str (Str.ofString "cleared") ta, .int (0) tb] }) :: (Wa, PySem.W.listOf vw.toArray nw) :: (Ra, PySem.W.listOf vr.toArray nr) :: (rest ++ frs')) → AllLt tp (rest ++ frs') → bq = false → Q (.ref tp) { s with heap := h', toks := tk' }) :
    wpAny (model prog w) A (call (.ref 913) [.int vb tv, .int kx tk, .ref Wa, .ref Ra, .int mx tm, .int mn tn]) Q E s := by
  subst b
  obtain ⟨X, T, hA, hf, hke, hdep⟩ := C
  have i1 : kf_ints vr.toArray.toList = true := ints_kf ir
  have i2 : vr.toArray.toList.any (isInt kx) = true := by simpa using (ints_any (k := kx) ir).trans (decide_eq_true hin)
  have i4 : vr.toArray.toList.length ≤ sizeLine := by rw [sizeLine_eq]; simp only [ir.length]; omega
  have i5 := ir.length
  have i3 : kf_at kx vr.toArray.toList = some (rs.idxOf kx) := ints_at ir hin
  k_steps
  all_goals first | (exfalso; omega) | exact hQ _ _ _ _ 0 _ _ 0 _ (by assumption) (by assumption) (by assumption) (by assumption) (decide_eq_false (by omega))
theorem told_kX {vb kx mx mn : Int} {tv tk tm tn : Tok} {Wa Ra : Addr} {vw vr : List Value} {ws rs : List Int} {nw nr : Nat} (C : Cx 4 w A hb L env l p loose mean mg mb) (F : Fr hb L s.heap m) (TL : Tl hb [Wa, Ra] l rest frs) (N : News hb L s.heap ((Wa, PySem.W.listOf vw.toArray nw) :: (Ra, PySem.W.listOf vr.toArray nr) :: (rest ++ frs)))
    (iw : IntsAre vw ws) (ir : IntsAre vr rs) (hw : ws.length = 6) (hr : rs.length ≤ 6) (hk0 : 0 ≤ kx) (hk1 : kx < 6) (hm0 : 0 ≤ mn) (hm1 : mn ≤ 4) (Hn : A.handled = none) (b : vb = 9) (hin : kx ∉ rs) 
    (hQ : ∀ h' tk' frs' tp (t2 : Addr) (ta tb tc : Tok) (bq : Bool), Tl hb [Wa, Ra] l rest frs' → Fr hb L h' m → News hb L h' ((tp, { cls := .type "tuple", data := .seq #[.bool bq, .str (Str.ofString "none") ta, .int (mn) tb] }) :: (Wa, PySem.W.listOf vw.toArray nw) :: (Ra, PySem.W.listOf vr.toArray nr) :: (rest ++ frs')) → AllLt tp (rest ++ frs') → bq = false → Q (.ref tp) { s with heap := h', toks := tk' }) :
    wpAny (model prog w) A (call (.ref 913) [.int vb tv, .int kx tk, .ref Wa, .ref Ra, .int mx tm, .int mn tn]) Q E s := by
  subst b
  obtain ⟨X, T, hA, hf, hke, hdep⟩ := C
  have i1 : kf_ints vr.toArray.toList = true := ints_kf ir
  have i2 : vr.toArray.toList.any (isInt kx) = false := by simpa using (ints_any (k := kx) ir).trans (decide_eq_false hin)
  have i4 : vr.toArray.toList.length ≤ sizeLine := by rw [sizeLine_eq]; simp only [ir.length]; omega
  have i5 := ir.length
  k_steps
  all_goals first | (exfalso; omega) | exact hQ _ _ _ _ 0 _ _ 0 _ (by assumption) (by assumption) (by assumption) (by assumption) (decide_eq_false (by omega))
theorem told_oX {vb kx mx mn : Int} {tv tk tm tn : Tok} {Wa Ra : Addr} {vw vr : List Value} {ws rs : List Int} {nw nr : Nat} (C : Cx 4 w A hb L env l p loose mean mg mb) (F : Fr hb L s.heap m) (TL : Tl hb [Wa, Ra] l rest frs) (N : News hb L s.heap ((Wa, PySem.W.listOf vw.toArray nw) :: (Ra, PySem.W.listOf vr.toArray nr) :: (rest ++ frs)))
    (iw : IntsAre vw ws) (ir : IntsAre vr rs) (hw : ws.length = 6) (hr : rs.length ≤ 6) (hk0 : 0 ≤ kx) (hk1 : kx < 6) (hm0 : 0 ≤ mn) (hm1 : mn ≤ 4) (Hn : A.handled = none) (b : vb = 11) (hin : kx ∉ rs) 
    (hQ : ∀ h' tk' frs' tp (t2 : Addr) (ta tb tc : Tok) (bq : Bool), Tl hb [Wa, Ra] l rest frs' → Fr hb L h' m → News hb L h' ((tp, { cls := .type "tuple", data := .seq #[.bool bq, .str (Str.ofString "cleared") ta, .int (0) tb] }) :: (Wa, PySem.W.listOf vw.toArray nw) :: (Ra, PySem.W.listOf vr.toArray nr) :: (rest ++ frs')) → AllLt tp (rest ++ frs') → bq = false → Q (.ref tp) { s with heap := h', toks := tk' }) :
    wpAny (model prog w) A (call (.ref 913) [.int vb tv, .int kx tk, .ref Wa, .ref Ra, .int mx tm, .int mn tn]) Q E s := by
  subst b
  obtain ⟨X, T, hA, hf, hke, hdep⟩ := C
  have i1 : kf_ints vr.toArray.toList = true := ints_kf ir
  have i2 : vr.toArray.toList.any (isInt kx) = false := by simpa using (ints_any (k := kx) ir).trans (decide_eq_false hin)
  have i4 : vr.toArray.toList.length ≤ sizeLine := by rw [sizeLine_eq]; simp only [ir.length]; omega
  have i5 := ir.length
  k_steps
  all_goals first | (exfalso; omega) | exact hQ _ _ _ _ 0 _ _ 0 _ (by assumption) (by assumption) (by assumption) (by assumption) (decide_eq_false (by omega))
end
section
variable {prog : Program} {w : World} {A : Around} {E : Value → Shared → Prop} {s : Shared} {L x dx D O : Addr} {hb : Heap} {m mg mb : Str → Option Value} {rest frs : Led} {p : Program} {loose : List Str} {mean : ExcName → Option Value} {l : FrL} {env : Env}
  {mx : Int} {kvs ovs : List (Int × Value)} {k : Int} {t : Tok} {Q : Value → Shared → Prop}
theorem told_nH {vb kx mx mn : Int} {tv tk tm tn : Tok} {Wa Ra : Addr} {vw vr : List Value} {ws rs : List Int} {nw nr : Nat} (C : Cx 4 w A hb L env l p loose mean mg mb) (F : Fr hb L s.heap m) (TL : Tl hb [Wa, Ra] l rest frs) (N : News hb L s.heap ((Wa, PySem.W.listOf vw.toArray nw) :: (Ra, PySem.W.listOf vr.toArray nr) :: (rest ++ frs)))
    (iw : IntsAre vw ws) (ir : IntsAre vr rs) (hw : ws.length = 6) (hr : rs.length ≤ 6) (hk0 : 0 ≤ kx) (hk1 : kx < 6) (hm0 : 0 ≤ mn) (hm1 : mn ≤ 4) (Hn : A.handled = none) (b : vb = 10) (hin : kx ∈ rs) (hit : (rs.length : Int) - (rs.idxOf kx : Nat) ≤ mn) (hz : mn = 0)
    (hQ : ∀ h' tk' frs' tp (t2 : Addr) (ta tb tc : Tok) (bq : Bool), Tl hb [Wa, Ra] l rest frs' → Fr hb L h' m → News hb L h' ((tp, { cls := .type "tuple", data := .seq #[.bool bq, .str (Str.ofString "lost") ta, .int (0) tb] }) :: (Wa, PySem.W.listOf vw.toArray nw) :: (Ra, PySem.W.listOf vr.toArray nr) :: (rest ++ frs')) → AllLt tp (rest ++ frs') → bq = true → Q (.ref tp) { s with heap := h', toks := tk' }) :
    wpAny (model prog w) A (call (.ref 913) [.int vb tv, .int kx tk, .ref Wa, .ref Ra, .int mx tm, .int mn tn]) Q E s := by
  subst b
  obtain ⟨X, T, hA, hf, hke, hdep⟩ := C
  have i1 : kf_ints vr.toArray.toList = true := ints_kf ir
  have i2 : vr.toArray.toList.any (isInt kx) = true := by simpa using (ints_any (k := kx) ir).trans (decide_eq_true hin)
  have i4 : vr.toArray.toList.length ≤ sizeLine := by rw [sizeLine_eq]; simp only [ir.length]; omega
  have i5 := ir.length
  have i3 : kf_at kx vr.toArray.toList = some (rs.idxOf kx) := ints_at ir hin
  k_steps
  all_goals first | (exfalso; omega) | exact hQ _ _ _ _ 0 _ _ 0 _ (by assumption) (by assumption) (by assumption) (by assumption) (decide_eq_true (by omega))
theorem told_mH {vb kx mx mn : Int} {tv tk tm tn : Tok} {Wa Ra : Addr} {vw vr : List Value} {ws rs : List Int} {nw nr : Nat} (C : Cx 4 w A hb L env l p loose mean mg mb) (F : Fr hb L s.heap m) (TL : Tl hb [Wa, Ra] l rest frs) (N : News hb L s.heap ((Wa, PySem.W.listOf vw.toArray nw) :: (Ra, PySem.W.listOf vr.toArray nr) :: (rest ++ frs)))
    (iw : IntsAre vw ws) (ir : IntsAre vr rs) (hw : ws.length = 6) (hr : rs.length ≤ 6) (hk0 : 0 ≤ kx) (hk1 : kx < 6) (hm0 : 0 ≤ mn) (hm1 : mn ≤ 4) (Hn : A.handled = none) (b : vb = 10) (hin : kx ∈ rs) (hit : (rs.length : Int) - (rs.idxOf kx : Nat) ≤ mn) (hz : 0 < mn) (hmr : mn ≤ rs.length) (hl : 0 ≤ rs.getD ((rs.length : Int) - mn).toNat 0 ∧ rs.getD ((rs.length : Int) - mn).toNat 0 < 6)
    (hQ : ∀ h' tk' frs' tp (t2 : Addr) (ta tb tc : Tok) (bq : Bool), Tl hb [Wa, Ra] l rest frs' → Fr hb L h' m → News hb L h' ((tp, { cls := .type "tuple", data := .seq #[.bool bq, .ref t2, .int (mn - 1) tb] }) :: (t2, { cls := .type "tuple", data := .seq #[.int (rs.getD ((rs.length : Int) - mn).toNat 0) tc, .int (ws.getD (rs.getD ((rs.length : Int) - mn).toNat 0).toNat 0) ta] }) :: (Wa, PySem.W.listOf vw.toArray nw) :: (Ra, PySem.W.listOf vr.toArray nr) :: (rest ++ frs')) → AllLt tp (rest ++ frs') → AllLt t2 (rest ++ frs') → bq = true → Q (.ref tp) { s with heap := h', toks := tk' }) :
    wpAny (model prog w) A (call (.ref 913) [.int vb tv, .int kx tk, .ref Wa, .ref Ra, .int mx tm, .int mn tn]) Q E s := by
  subst b
  obtain ⟨X, T, hA, hf, hke, hdep⟩ := C
  have i1 : kf_ints vr.toArray.toList = true := ints_kf ir
  have i2 : vr.toArray.toList.any (isInt kx) = true := by simpa using (ints_any (k := kx) ir).trans (decide_eq_true hin)
  have i4 : vr.toArray.toList.length ≤ sizeLine := by rw [sizeLine_eq]; simp only [ir.length]; omega
  have i5 := ir.length
  have i3 : kf_at kx vr.toArray.toList = some (rs.idxOf kx) := ints_at ir hin
  have i6 := hl
  k_steps
  all_goals first | (exfalso; omega) | exact hQ _ _ _ _ _ _ _ _ _ (by assumption) (by assumption) (by assumption) (by assumption) (by assumption) (decide_eq_true (by omega))
theorem told_nM {vb kx mx mn : Int} {tv tk tm tn : Tok} {Wa Ra : Addr} {vw vr : List Value} {ws rs : List Int} {nw nr : Nat} (C : Cx 4 w A hb L env l p loose mean mg mb) (F : Fr hb L s.heap m) (TL : Tl hb [Wa, Ra] l rest frs) (N : News hb L s.heap ((Wa, PySem.W.listOf vw.toArray nw) :: (Ra, PySem.W.listOf vr.toArray nr) :: (rest ++ frs)))
    (iw : IntsAre vw ws) (ir : IntsAre vr rs) (hw : ws.length = 6) (hr : rs.length ≤ 6) (hk0 : 0 ≤ kx) (hk1 : kx < 6) (hm0 : 0 ≤ mn) (hm1 : mn ≤ 4) (Hn : A.handled = none) (b : vb = 10) (hin : kx ∈ rs) (hit : mn < (rs.length : Int) - (rs.idxOf kx : Nat)) (hz : mn = 0)
    (hQ : ∀ h' tk' frs' tp (t2 : Addr) (ta tb tc : Tok) (bq : Bool), Tl hb [Wa, Ra] l rest frs' → Fr hb L h' m → News hb L h' ((tp, { cls := .type "tuple", data := .seq #[.bool bq, .str (Str.ofString "lost") ta, .int (0) tb] }) :: (Wa, PySem.W.listOf vw.toArray nw) :: (Ra, PySem.W.listOf vr.toArray nr) :: (rest ++ frs')) → AllLt tp (rest ++ frs') → bq = false → Q (.ref tp) { s with heap := h', toks := tk' }) :
    wpAny (model prog w) A (call (.ref 913) [.int vb tv, .int kx tk, .ref Wa, .ref Ra, .int mx tm, .int mn tn]) Q E s := by
  subst b
  obtain ⟨X, T, hA, hf, hke, hdep⟩ := C
  have i1 : kf_ints vr.toArray.toList = true := ints_kf ir
  have i2 : vr.toArray.toList.any (isInt kx) = true := by simpa using (ints_any (k := kx) ir).trans (decide_eq_true hin)
  have i4 : vr.toArray.toList.length ≤ sizeLine := by rw [sizeLine_eq]; simp only [ir.length]; omega
  have i5 := ir.length
  have i3 : kf_at kx vr.toArray.toList = some (rs.idxOf kx) := ints_at ir hin
  k_steps
  all_goals first | (exfalso; omega) | exact hQ _ _ _ _ 0 _ _ 0 _ (by assumption) (by assumption) (by assumption) (by assumption) (decide_eq_false (by omega))
theorem told_mM {vb kx mx mn : Int} {tv tk tm tn : Tok} {Wa Ra : Addr} {vw vr : List Value} {ws rs : List Int} {nw nr : Nat} (C : Cx 4 w A hb L env l p loose mean mg mb) (F : Fr hb L s.heap m) (TL : Tl hb [Wa, Ra] l rest frs) (N : News hb L s.heap ((Wa, PySem.W.listOf vw.toArray nw) :: (Ra, PySem.W.listOf vr.toArray nr) :: (rest ++ frs)))
    (iw : IntsAre vw ws) (ir : IntsAre vr rs) (hw : ws.length = 6) (hr : rs.length ≤ 6) (hk0 : 0 ≤ kx) (hk1 : kx < 6) (hm0 : 0 ≤ mn) (hm1 : mn ≤ 4) (Hn : A.handled = none) (b : vb = 10) (hin : kx ∈ rs) (hit : mn < (rs.length : Int) - (rs.idxOf kx : Nat)) (hz : 0 < mn) (hmr : mn ≤ rs.length) (hl : 0 ≤ rs.getD ((rs.length : Int) - mn).toNat 0 ∧ rs.getD ((rs.length : Int) - mn).toNat 0 < 6)
    (hQ : ∀ h' tk' frs' tp (t2 : Addr) (ta tb tc : Tok) (bq : Bool), Tl hb [Wa, Ra] l rest frs' → Fr hb L h' m → News hb L h' ((tp, { cls := .type "tuple", data := .seq #[.bool bq, .ref t2, .int (mn - 1) tb] }) :: (t2, { cls := .type "tuple", data := .seq #[.int (rs.getD ((rs.length : Int) - mn).toNat 0) tc, .int (ws.getD (rs.getD ((rs.length : Int) - mn).toNat 0).toNat 0) ta] }) :: (Wa, PySem.W.listOf vw.toArray nw) :: (Ra, PySem.W.listOf vr.toArray nr) :: (rest ++ frs')) → AllLt tp (rest ++ frs') → AllLt t2 (rest ++ frs') → bq = false → Q (.ref tp) { s with heap := h', toks := tk' }) :
    wpAny (model prog w) A (call (.ref 913) [.int vb tv, .int kx tk, .ref Wa, .ref Ra, .int mx tm, .int mn tn]) Q E s := by
  subst b
  obtain ⟨X, T, hA, hf, hke, hdep⟩ := C
  have i1 : kf_ints vr.toArray.toList = true := ints_kf ir
  have i2 : vr.toArray.toList.any (isInt kx) = true := by simpa using (ints_any (k := kx) ir).trans (decide_eq_true hin)
  have i4 : vr.toArray.toList.length ≤ sizeLine := by rw [sizeLine_eq]; simp only [ir.length]; omega
  have i5 := ir.length
  have i3 : kf_at kx vr.toArray.toList = some (rs.idxOf kx) := ints_at ir hin
  have i6 := hl
  k_steps
  all_goals first | (exfalso; omega) | exact hQ _ _ _ _ _ _ _ _ _ (by assumption) (by assumption) (by assumption) (by assumption) (by assumption) (decide_eq_false (by omega))
theorem told_nX {vb kx mx mn : Int} {tv tk tm tn : Tok} {Wa Ra : Addr} {vw vr : List Value} {ws rs : List Int} {nw nr : Nat} (C : Cx 4 w A hb L env l p loose mean mg mb) (F : Fr hb L s.heap m) (TL : Tl hb [Wa, Ra] l rest frs) (N : News hb L s.heap ((Wa, PySem.W.listOf vw.toArray nw) :: (Ra, PySem.W.listOf vr.toArray nr) :: (rest ++ frs)))
    (iw : IntsAre vw ws) (ir : IntsAre vr rs) (hw : ws.length = 6) (hr : rs.length ≤ 6) (hk0 : 0 ≤ kx) (hk1 : kx < 6) (hm0 : 0 ≤ mn) (hm1 : mn ≤ 4) (Hn : A.handled = none) (b : vb = 10) (hin : kx ∉ rs) (hz : mn = 0)
    (hQ : ∀ h' tk' frs' tp (t2 : Addr) (ta tb tc : Tok) (bq : Bool), Tl hb [Wa, Ra] l rest frs' → Fr hb L h' m → News hb L h' ((tp, { cls := .type "tuple", data := .seq #[.bool bq, .str (Str.ofString "lost") ta, .int (0) tb] }) :: (Wa, PySem.W.listOf vw.toArray nw) :: (Ra, PySem.W.listOf vr.toArray nr) :: (rest ++ frs')) → AllLt tp (rest ++ frs') → bq = false → Q (.ref tp) { s with heap := h', toks := tk' }) :
    wpAny (model prog w) A (call (.ref 913) [.int vb tv, .int kx tk, .ref Wa, .ref Ra, .int mx tm, .int mn tn]) Q E s := by
  subst b
  obtain ⟨X, T, hA, hf, hke, hdep⟩ := C
  have i1 : kf_ints vr.toArray.toList = true := ints_kf ir
  have i2 : vr.toArray.toList.any (isInt kx) = false := by simpa using (ints_any (k := kx) ir).trans (decide_eq_false hin)
  have i4 : vr.toArray.toList.length ≤ sizeLine := by rw [sizeLine_eq]; simp only [ir.length]; omega
  have i5 := ir.length
  k_steps
  all_goals first | (exfalso; omega) | exact hQ _ _ _ _ 0 _ _ 0 _ (by assumption) (by assumption) (by assumption) (by assumption) (decide_eq_false (by omega))
theorem told_mX {vb kx mx mn : Int} {tv tk tm tn : Tok} {Wa Ra : Addr} {vw vr : List Value} {ws rs : List Int} {nw nr : Nat} (C : Cx 4 w A hb L env l p loose mean mg mb) (F : Fr hb L s.heap m) (TL : Tl hb [Wa, Ra] l rest frs) (N : News hb L s.heap ((Wa, PySem.W.listOf vw.toArray nw) :: (Ra, PySem.W.listOf vr.toArray nr) :: (rest ++ frs)))
    (iw : IntsAre vw ws) (ir : IntsAre vr rs) (hw : ws.length = 6) (hr : rs.length ≤ 6) (hk0 : 0 ≤ kx) (hk1 : kx < 6) (hm0 : 0 ≤ mn) (hm1 : mn ≤ 4) (Hn : A.handled = none) (b : vb = 10) (hin : kx ∉ rs) (hz : 0 < mn) (hmr : mn ≤ rs.length) (hl : 0 ≤ rs.getD ((rs.length : Int) - mn).toNat 0 ∧ rs.getD ((rs.length : Int) - mn).toNat 0 < 6)
    (hQ : ∀ h' tk' frs' tp (t2 : Addr) (ta tb tc : Tok) (bq : Bool), Tl hb [Wa, Ra] l rest frs' → Fr hb L h' m → News hb L h' ((tp, { cls := .type "tuple", data := .seq #[.bool bq, .ref t2, .int (mn - 1) tb] }) :: (t2, { cls := .type "tuple", data := .seq #[.int (rs.getD ((rs.length : Int) - mn).toNat 0) tc, .int (ws.getD (rs.getD ((rs.length : Int) - mn).toNat 0).toNat 0) ta] }) :: (Wa, PySem.W.listOf vw.toArray nw) :: (Ra, PySem.W.listOf vr.toArray nr) :: (rest ++ frs')) → AllLt tp (rest ++ frs') → AllLt t2 (rest ++ frs') → bq = false → Q (.ref tp) { s with heap := h', toks := tk' }) :
    wpAny (model prog w) A (call (.ref 913) [.int vb tv, .int kx tk, .ref Wa, .ref Ra, .int mx tm, .int mn tn]) Q E s := by
  subst b
  obtain ⟨X, T, hA, hf, hke, hdep⟩ := C
  have i1 : kf_ints vr.toArray.toList = true := ints_kf ir
  have i2 : vr.toArray.toList.any (isInt kx) = false := by simpa using (ints_any (k := kx) ir).trans (decide_eq_false hin)
  have i4 : vr.toArray.toList.length ≤ sizeLine := by rw [sizeLine_eq]; simp only [ir.length]; omega
  have i5 := ir.length
  have i6 := hl
  k_steps
  all_goals first | (exfalso; omega) | exact hQ _ _ _ _ _ _ _ _ _ (by assumption) (by assumption) (by assumption) (by assumption) (by assumption) (decide_eq_false (by omega))
end
end
section
section
open Builtin Builtin.ObjectAttr
theorem inst_sm {prog : Program} {w : World} {A : Around} {E : Value → Shared → Prop} {s : Shared} {K : Frag} {x C p L : Addr} {ox : Obj} {name : Str} {h₀ : Heap} {m : Str → Option Value} {es : List DictEntry} {n : Nat} {expr : Bool} {Q : Value → Shared → Prop} {fv : Value} {rest : List Value}
    (F : Fr h₀ L s.heap m) (X₀ : K.In h₀) (I : InstAt s.heap x ox C (some (dictOf es n))) (hg : plainGet K C name = true) (hh : hasDictIn K C = true) (ha : findIn K (.ref C) name = some (some (.ref p))) (_ : typeIn K (.ref p) = some (.type "staticmethod"))
    (hgf : specialIn K (.ref p) "__get__" = some (some (.builtin "staticmethod.__get__"))) (hts : takesIn K (.ref p) = some false) (hc : copiedNames.contains name = false) (hl : getL name es = some none) (hp : recIn K p "staticmethod" = some (fv :: rest)) (hv : handedIn fv = true)
    (h : Q fv { s with toks := s.toks + 1 }) : wpAny (model prog w) A (getAttr (.ref x) name expr) Q E s :=
  get_bind (X₀.keeps F.keep) I (plainGet_of hg).1 (findObj_fn hh ha hgf hts hc (by show lookIn name (dictOf es n) = _; rw [lookIn_dict, hl])) (plainGet_of hg).2
      (wpAny_call (sm_get (s := { s with toks := s.toks + 1 }) (X₀.keeps F.keep) hp (handed_on hv h)))
end
end
section
local macro_rules | `(tactic| k_lt $h:ident) => `(tactic| (have k_tl := allLt_of $h; (simp only [AllLt, and_true] at k_tl); (repeat (replace k_tl := And.right k_tl)); replace $h := allLt_of $h; simp only [AllLt, and_true] at $h:ident))
local macro_rules | `(tactic| k_all) => `(tactic| first | exact Tl.apart (by assumption) |>.ne mem4_1 | exact Tl.apart (by assumption) |>.ne mem4_2 | exact Tl.apart (by assumption) |>.ne mem4_3 | exact Tl.apart (by assumption) |>.ne mem4_4 | exact allLt_ne (by assumption))
local macro_rules | `(tactic| k_room) => `(tactic| ((try simp only [depth_mark, depth_under_make, depth_under_kw, depth_in1, depth_deeper, depth_caller]); omega))
local macro_rules | `(tactic| walk_at "call ref") => `(tactic| (k_here; k_dflt (refine wpAny_call ?_; refine' enter ?k1 ?k2 ?k3 ?k4 ?k5 ?k6 ?k7 ?kA ?kF ?kK ?k8 ?k9 ?kR ?kB ?kL ?_ ?c2 ?c3 ?c4 ?c5; (case k1 => k_asm); (case k2 => k_asm); (case k3 => k_asm); (case k4 => k_asm); (case k5 => k_asm); (case k6 => repeat (first | exact TailAt.here | apply TailAt.cons)); (case k7 => exact four (by k_mem) (by k_mem) (by k_mem) (by k_mem)); (case kA => first | assumption | exact Around.frames_deeper (by assumption) | exact Around.frames_deeper (Around.frames_deeper (by assumption)) | exact Around.frames_deeper (Around.frames_deeper (Around.frames_deeper (by assumption)))); (case kF => first | assumption | rfl); (case kK => first | assumption | rfl); (case k8 => k_is); (case k9 => k_is); (case kR => k_room); (case kB => first | exact BindsTo.of_eq rfl | exact binds_K (by k_in) rfl (by k_is) rfl rfl rfl | fail "enter: no rule for these arguments"); (case kL => exact locs rfl); (case c5 => decide); (case c2 => exact rfl); (case c3 => exact rfl); (case c4 => exact rfl); k_whole; intro frs' L' h' TL' F' N'; (try dsimp only at N' ⊢); (try k_fold))))
local macro_rules | `(tactic| walk_at "LeaveM") => `(tactic| (k_dflt (first
  | (refine' leaveM1 ?k1 ?k2 ?k3 ?k4 ?k5 ?k6 ?k7 ?k8 ?_; (case k1 => assumption); (case k5 => assumption); (case k2 => first | assumption | rfl); (case k3 => assumption); (case k4 => assumption); (case k6 => k_mem); (case k7 => exact kept4 (by assumption) (by k_mem) (by k_mem) (by k_mem) (by k_mem)); (case k8 => (intro q hq; repeat (first | exact hq | refine List.mem_cons_of_mem _ ?_))); k_whole; intro frs' TL' F' N' lt')
  | (refine' leaveM ?k1 ?k2 ?k3 ?k4 ?k5 ?k6 ?_; (case k1 => assumption); (case k2 => first | assumption | rfl); (case k3 => assumption); (case k4 => assumption); (case k5 => exact kept4 (by assumption) (by k_mem) (by k_mem) (by k_mem) (by k_mem)); (case k6 => (intro q hq; repeat (first | exact hq | refine List.mem_cons_of_mem _ ?_))); k_whole; intro frs' TL' F' N')); (try simp only [List.cons_append, List.nil_append] at N'); (try dsimp only)))
local macro_rules | `(tactic| walk_at "compareOp In int ref") => `(tactic| (k_here; k_dflt (refine kda_in (knd := PySem.intKind _ _) (by k_asm) (by k_mem) (by k_asm) (by k_asm) (intKind_is _ _ _ _) _ (by first | assumption | exact isSome_of (by assumption) | exact Option.isSome_eq_false_iff.mpr (Option.isNone_iff_eq_none.mpr (by assumption)) | rfl) ?_)))
local macro_rules | `(tactic| walk_at "getMethod ref") => `(tactic| (k_here; (with_reducible show wpAny _ _ (getMethod (Value.ref _) (Str.ofString "pop") _) _ _ _); k_dflt (refine kob_method (knd := PySem.intKind _ _) PySem.F.slot_dict_pop PySem.F.type_dict_pop (by k_asm) (by k_mem) (by k_asm) ?_)))
local macro_rules | `(tactic| walk_at "getMethod ref") => `(tactic| (k_here; (with_reducible show wpAny _ _ (getMethod (Value.ref _) (Str.ofString "clear") _) _ _ _); k_dflt (refine kob_method (knd := PySem.intKind _ _) PySem.F.slot_dict_clear PySem.F.type_dict_clear (by k_asm) (by k_mem) (by k_asm) ?_)))
local macro_rules | `(tactic| walk_at "call builtin:dict.pop") => `(tactic| (k_here; k_dflt (first
  | (refine' kob_pop (knd := PySem.intKind _ _) (more := []) ?k1 ?k2 ?k3 ?k4 (intKind_is _ _ _ _) (.inl rfl) (by rfl) (PySem.F.args_dict_pop_2 _ _) ?k5 ?k6 ?_; (case k1 => k_asm); (case k2 => k_asm); (case k3 => k_updF); (case k4 => k_asm); (case k5 => assumption); (case k6 => rw [sizeLine_eq]; omega); intro h' o' F' N' hd'; (try dsimp only at N'))
  | (refine' pop_missing ?k0 ?k1 ?k2 ?k3 ?k4 ?k5 ?_; (case k1 => k_asm); (case k2 => k_mem); (case k3 => k_asm); (case k4 => k_asm); (case k5 => assumption); (case k0 => exact HdL.hd (by assumption) (fun q hq => (by assumption : News _ _ _ _) q (by (repeat (first | exact List.mem_append_left _ hq | refine List.mem_cons_of_mem _ ?_))) |>.1)); k_whole; intro h' e' x'))))
local macro_rules | `(tactic| walk_at "setItem ref int") => `(tactic| (k_here; k_dflt (refine' kda_set (knd := PySem.intKind _ _) ?k1 ?k2 ?k3 ?k4 (intKind_is _ _ _ _) ?k5 ?_; (case k1 => k_asm); (case k2 => k_asm); (case k3 => k_updF); (case k4 => k_asm); (case k5 => rw [sizeLine_eq]; (try simp only [List.length_append, List.length_cons, List.length_nil]); omega); intro h' o' F' N' hd'; (try dsimp only at N'))))
local macro_rules | `(tactic| walk_at "delItem ref int") => `(tactic| (k_here; k_dflt (refine' kob_del (knd := PySem.intKind _ _) ?k1 ?k2 ?k3 ?k4 (intKind_is _ _ _ _) ?k5 ?k6 ?_; (case k1 => k_asm); (case k2 => k_asm); (case k3 => k_updF); (case k4 => k_asm); (case k5 => first | assumption | exact isSome_of (by assumption)); (case k6 => rw [sizeLine_eq]; omega); intro h' o' F' N' hd'; (try dsimp only at N'))))
local macro_rules | `(tactic| walk_at "subscriptTail") => `(tactic| (k_here; (with_reducible show wpAny _ _ (subscriptTail _ _ (Value.ref _) (Value.int _ _)) _ _ _); k_dflt (first
  | (refine' kdt_tail (knd := PySem.intKind _ _) ?k1 ?k2 ?k3 (kdt_getItem (knd := PySem.intKind _ _) ?k1 ?k2 ?k3 (intKind_is _ _ _ _) ?k4 ?_); (case k1 => k_asm); (case k2 => k_mem); (case k3 => k_asm); (case k4 => assumption); k_whole)
  | (refine' tail_missing ?k0 ?k1 ?k2 ?k3 ?k4 ?k5 ?_; (case k0 => first | rfl | assumption); (case k1 => k_asm); (case k2 => k_mem); (case k3 => k_asm); (case k4 => k_asm); (case k5 => assumption); k_whole; intro h' e' x'))))
local macro_rules | `(tactic| walk_at "noteFrame ref") => `(tactic| (k_here; k_dflt (first
  | (refine' note_new ?k1 ?k2 ?k3 ?k4 ?k5 ?k6 ?k7 ?k8 ?_; (case k1 => assumption))
  | (refine' note_fly ?k1 ?k2 ?k3 ?k4 ?k5 ?k6 ?k7 ?k8 ?_; (case k1 => assumption))); (case k2 => assumption); (case k3 => assumption); (case k4 => assumption); (case k5 => first | assumption | exact Around.frames_deeper (by assumption) | exact Around.frames_deeper (Around.frames_deeper (by assumption)) | exact Around.frames_deeper (Around.frames_deeper (Around.frames_deeper (by assumption)))); (case k6 => exact kept4 (by assumption) (by k_mem) (by k_mem) (by k_mem) (by k_mem)); (case k7 => (intro q hq; repeat (first | exact hq | refine List.mem_cons_of_mem _ ?_))); (case k8 => rfl); k_whole; intro h' frs' TL' F' N' X'; (try simp only [List.cons_append, List.nil_append] at N' X')))
local macro_rules | `(tactic| walk_at "setFlight ref") => `(tactic| (k_here; k_dflt (refine' land_fly ?k1 ?k2 ?k3 ?_; (case k1 => assumption); (case k2 => assumption); (case k3 => assumption); k_whole; intro h' F' N' X')))
local macro_rules | `(tactic| walk_at "handleBy ref") => `(tactic| (k_here; k_dflt (first
  | (refine' handle_hit (T' := "KeyError") ?k1 ?k2 ?k3 ?k4 ?k5 ?k6 PyProof.Rows.Boot.«KeyError» ?k7 kr_isExc_KeyError kr_notTuple_KeyError ?k8 ?_ ?c1 ?c2 ?c3 ?c4; (case k1 => assumption); (case k2 => assumption); (case k3 => assumption); (case k4 => assumption); (case k5 => assumption); (case k6 => k_is); (case k7 => decide); (case k8 => rw [isSubtype_type]; kernel_rfl); (case c1 => rfl); (case c2 => rfl); (case c3 => decide); (case c4 => passes_own); k_whole)); intro h' oe' vs' F' N' hE' hv1' hv2'))
local macro_rules | `(tactic| walk_at "leaving ref") => `(tactic| (k_here; k_dflt (first
  | (refine' leave_new ?k1 ?k2 ?k3 ?k4 ?k9 ?k5 ?k6 ?k7 ?k8 ?_; (case k1 => assumption))
  | (refine' leave_fly ?k1 ?k2 ?k3 ?k4 ?k9 ?k5 ?k6 ?k7 ?k8 ?_; (case k1 => assumption))); (case k2 => assumption); (case k3 => assumption); (case k4 => assumption); (case k9 => first | assumption | rfl); (case k5 => first | assumption | exact Around.frames_deeper (by assumption) | exact Around.frames_deeper (Around.frames_deeper (by assumption)) | exact Around.frames_deeper (Around.frames_deeper (Around.frames_deeper (by assumption)))); (case k6 => exact kept4a (by k_mem) (by k_mem) (by k_mem) (by k_mem)); (case k7 => (intro q hq; repeat (first | exact hq | refine List.mem_cons_of_mem _ ?_))); (case k8 => rfl); k_whole; intro h' frs' TL' F' N' X'; (try simp only [List.cons_append, List.nil_append] at N' X'); (try dsimp only)))
local macro_rules | `(tactic| walk_at "CompSrc") => `(tactic| (k_here; k_dflt (refine LCg.CompSrc.range (by rfl) (by k_asm) (by k_asm) (by assumption) (by first | decide | rfl) (by first | rfl | decide) (by first | size_fits | exact Nat.le_of_ble_eq_true rfl) ?_; intro g'; lcg_lit)))
local macro_rules | `(tactic| walk_at "getAttr ref true") => `(tactic| (k_here; (with_reducible show wpAny _ _ (getAttr (Value.ref _) "getsizeof" _) _ _ _); k_dflt (refine' inst_sm ?k1 ?k2 ?k4 ?k5 ?k6 ?k7 ?k8 ?k9 ?k10 ?k11 ?k12 ?k13 ?k14 ?_; (case k1 => k_asm); (case k2 => k_asm); (case k4 => k_inst); (case k5 => k_is); (case k6 => k_is); (case k7 => k_is); (case k8 => k_is); (case k9 => k_is); (case k10 => k_is); (case k11 => decide +kernel); (case k12 => k_get); (case k13 => k_is); (case k14 => k_handed); k_whole)))
local macro_rules | `(tactic| walk_at "eval Dict nil nil") => `(tactic| (k_here; k_dflt (refine' newDict_K ?k1 ?k2 (TopRead.nolimit ?k3) ?_; (case k1 => k_asm); (case k2 => k_asm); (case k3 => k_asm); k_whole); intro d' h' o' F' N' l1 lo' hs' fs' hi' fi'; (try k_lt l1); (try k_sweep)))
local macro_rules | `(tactic| k_all) => `(tactic| first | exact Tl.apart (by assumption) |>.ne mem2_1 | exact Tl.apart (by assumption) |>.ne mem2_2 | exact allLt_ne (by assumption))
local macro_rules | `(tactic| walk_at "call ref") => `(tactic| (k_here; (with_reducible show wpAny _ _ (call (Value.ref 897) _) _ _ _); k_dflt (refine' call_cls ?k1 ?k2 ?k3 ?k4 ?k5 ?k6 ?_; (case k1 => k_asm); (case k2 => k_asm); (case k3 => k_asm); (case k4 => k_is); (case k5 => k_is); (case k6 => k_is); k_whole; intro x' d' h' F' N' l1 l2; (have l3 := allLt_of l1); (have TL' : Tl _ [_, _] _ _ _ := Tl.addAs (Tl.addAs (by assumption) (allLt_trans l3 l2)) l3); (replace l2 := ltN l2))))
local macro_rules | `(tactic| walk_at "call ref") => `(tactic| (k_here; (with_reducible show wpAny _ _ (call (Value.ref 714) _) _ _ _); refine wpAny_call ?_))
local macro_rules | `(tactic| walk_at "codeAny") => `(tactic| (k_here; k_dflt (refine' enter ?k1 ?k2 ?k3 ?k4 ?k5 ?k6 ?k7 ?kA ?kF ?kK ?k8 ?k9 ?kR ?kB ?kL ?_ ?c2 ?c3 ?c4 ?c5; (case k1 => k_asm); (case k2 => k_asm); (case k3 => k_asm); (case k4 => k_asm); (case k5 => k_asm); (case k6 => repeat (first | exact TailAt.here | apply TailAt.cons)); (case k7 => exact two (by k_mem) (by k_mem)); (case kA => first | assumption | exact frames_underB (by assumption) | exact Around.frames_deeper (frames_underB (by assumption)) | exact Around.frames_deeper (by assumption) | exact Around.frames_deeper (Around.frames_deeper (by assumption))); (case kF => first | assumption | rfl); (case kK => first | assumption | rfl); (case k8 => k_is); (case k9 => k_is); (case kR => k_room); (case kB => first | exact BindsTo.of_eq rfl | exact binds_K (by k_in) rfl (by k_is) rfl rfl rfl | fail "enter: no rule for these arguments"); (case kL => exact locs rfl); (case c5 => decide); (case c2 => exact rfl); (case c3 => exact rfl); (case c4 => exact rfl); k_whole; intro frs' L' h' TL' F' N'; (try dsimp only at N' ⊢); (try k_fold))))
local macro_rules | `(tactic| walk_at "LeaveM") => `(tactic| (k_dflt (first
  | (refine' leaveM1 ?k1 ?k2 ?k3 ?k4 ?k5 ?k6 ?k7 ?k8 ?_; (case k1 => exact (by assumption : Tl _ [_, _, _] _ _ _)); (case k5 => assumption); (case k2 => first | assumption | rfl); (case k3 => assumption); (case k4 => assumption); (case k6 => k_mem); (case k7 => exact kept3 (by assumption) (by k_mem) (by k_mem) (by k_mem)); (case k8 => (intro q hq; repeat (first | exact hq | refine List.mem_cons_of_mem _ ?_))); k_whole; intro frs' TL' F' N' lt')
  | (refine' leaveM1 ?k1 ?k2 ?k3 ?k4 ?k5 ?k6 ?k7 ?k8 ?_; (case k1 => assumption); (case k5 => assumption); (case k2 => first | assumption | rfl); (case k3 => assumption); (case k4 => assumption); (case k6 => k_mem); (case k7 => exact kept2 (by assumption) (by k_mem) (by k_mem)); (case k8 => (intro q hq; repeat (first | exact hq | refine List.mem_cons_of_mem _ ?_))); k_whole; intro frs' TL' F' N' lt'; have TL2' : Tl _ [_, _, _] _ _ _ := Tl.addAs TL' lt')); (try simp only [List.cons_append, List.nil_append] at N'); (try dsimp only)))
local macro_rules | `(tactic| walk_at "no such key 0") => `(tactic| fail)
local macro_rules | `(tactic| walk_at "no such key 1") => `(tactic| fail)
local macro_rules | `(tactic| walk_at "no such key 2") => `(tactic| fail)
local macro_rules | `(tactic| walk_at "no such key 3") => `(tactic| fail)
section
variable {prog : Program} {w : World} {A : Around} {E : Value → Shared → Prop} {s : Shared} {L x dx D O : Addr} {hb : Heap} {m mg mb : Str → Option Value} {rest frs : Led} {p : Program} {loose : List Str} {mean : ExcName → Option Value} {l : FrL} {env : Env}
  {mx : Int} {kvs ovs : List (Int × Value)} {k : Int} {t : Tok} {Q : Value → Shared → Prop}
theorem make_ok {n : Int} {tn : Tok} (C : Cx 8 w A hb L env l p loose mean mg mb) (F : Fr hb L s.heap m) (TL : Tl hb [] l rest frs) (N : News hb L s.heap (rest ++ frs)) (hn : 0 ≤ n)
    (hQ : ∀ h' tk' frs' x dx D O, Tl hb [x, dx, D, O] l rest frs' → Fr hb L h' m → Apt x dx D O → (∀ q ∈ rest, q.1 < dx) → Cache prog w hb L h' x dx D O n [] [] (rest ++ frs') → Q (.ref x) { s with heap := h', toks := tk' }) :
    wpAny (model prog w) A (call (.ref 897) [.int n tn]) Q E s := by
  obtain ⟨X, T, hA, hf, hke, hdep⟩ := C
  k_steps
  exact ⟨rfl, hQ _ _ _ _ _ _ _ (Tl.addAs (by assumption) (by assumption)) (by assumption) ⟨ltN (by omega), ltN (by omega), ltN (by omega), by assumption, by assumption⟩ (allLt_rest (by assumption)) ⟨_, _, _, _, _, _, _, _, _, _, _, _, mv4 (by assumption), by assumption, by assumption⟩⟩
end
end
section
abbrev keys (ovs : List (Int × Value)) : List Int := ovs.map (·.1)
def del (l : List Int) (k : Int) : List Int := l.filter fun j => decide (j ≠ k)
theorem keys_without {ovs : List (Int × Value)} {k : Int} : keys (without ovs k) = del (keys ovs) k := by
  unfold keys without del
  rw [List.filter_map]
  rfl
theorem del_not {l : List Int} {k : Int} (h : k ∉ l) : del l k = l := List.filter_eq_self.mpr fun j hj => by
  simp only [decide_eq_true_eq]; intro e; exact h (e ▸ hj)
theorem del_append {a b : List Int} {k : Int} : del (a ++ b) k = del a k ++ del b k := List.filter_append ..
theorem mem_del {l : List Int} {k j : Int} : j ∈ del l k ↔ j ∈ l ∧ j ≠ k := by unfold del; rw [List.mem_filter]; simp
theorem at_without {kvs : List (Int × Value)} {k j : Int} : valueAt (without kvs k) j = if j = k then none else valueAt kvs j := by
  by_cases h : j = k
  · rw [if_pos h, h]; exact without_gone
  · rw [if_neg h]
    induction kvs with
    | nil => rfl
    | cons p r ih =>
      obtain ⟨k0, v0⟩ := p
      rw [without_cons, valueAt_cons]
      by_cases e : k0 = k
      · rw [if_pos e, ih, if_neg (fun q => h (q.symm.trans e))]
      · rw [if_neg e, valueAt_cons, ih]
theorem at_snoc {kvs : List (Int × Value)} {k j : Int} {v : Value} (h : valueAt kvs k = none) : valueAt (kvs ++ [(k, v)]) j = if j = k then some v else valueAt kvs j := by
  rw [valueAt_append, valueAt_cons]
  by_cases e : k = j
  · subst e; rw [if_pos rfl, if_pos rfl, h]; rfl
  · rw [if_neg e, if_neg (fun q => e q.symm)]
    show (valueAt kvs j).or none = _
    cases valueAt kvs j <;> rfl
theorem at_map {kvs : List (Int × Value)} {k j : Int} {v : Value} (h : k ∈ keys kvs) : valueAt (stored kvs k v) j = if j = k then some v else valueAt kvs j := by
  have h' : (kvs.any fun kv => decide (kv.1 = k)) = true := by
    obtain ⟨x, hx, e⟩ := List.mem_map.mp h
    exact List.any_eq_true.mpr ⟨x, hx, by simpa using e⟩
  unfold stored
  rw [if_pos h']
  clear h'
  induction kvs with
  | nil => cases h
  | cons p r ih =>
    obtain ⟨k0, v0⟩ := p
    rw [List.map_cons]
    by_cases e : k0 = k
    · subst e
      simp only [if_true]
      rw [valueAt_cons, valueAt_cons]
      by_cases q : k0 = j
      · rw [if_pos q, if_pos q.symm]
      · rw [if_neg q, if_neg (fun z => q z.symm), if_neg q]
        by_cases hk : k0 ∈ keys r
        · rw [ih hk, if_neg (fun z => q z.symm)]
        · have : (r.map fun kv => if kv.1 = k0 then (kv.1, v) else kv) = r := by
            conv => rhs; rw [← List.map_id r]
            refine List.map_congr_left fun x hx => ?_
            have : x.1 ≠ k0 := fun z => hk (z ▸ List.mem_map_of_mem hx)
            simp [this]
          first | rw [this] | (simp only [] at this ⊢; rw [this])
    · simp only [if_neg e]
      rw [valueAt_cons, valueAt_cons]
      have hk : k ∈ keys r := (List.mem_cons.mp h).resolve_left (fun z => e z.symm)
      by_cases q : k0 = j
      · rw [if_pos q, if_pos q, if_neg (fun z => e (q.trans z))]
      · rw [if_neg q, if_neg q, ih hk]
def wth (ws : List Int) (k : Int) : Int := ws.getD k.toNat 0
/-- one store beside the list of keys: its order is the list's end, its values are the worths of the keys that P lets pass -/
structure Inv (mx : Int) (rs ws : List Int) (mn : Int) (kvs ovs : List (Int × Value)) (P : Int → Prop) : Prop where
  old : ∃ a, rs = a ++ keys ovs
  nd : rs.Nodup
  rng : ∀ j ∈ rs, 0 ≤ j ∧ j < 6
  mn : mn = (ovs.length : Int)
  ln : ovs.length = kvs.length
  le : (kvs.length : Int) ≤ mx
  m1 : 1 ≤ mx
  m4 : mx ≤ 4
  there : ∀ j ∈ keys ovs, ∃ v t, valueAt kvs j = some (.int v t) ∧ (P j → v = wth ws j)
  lost : ∀ j, j ∉ keys ovs → valueAt kvs j = none
section
variable {mx mn k : Int} {rs ws : List Int} {kvs ovs : List (Int × Value)} {P : Int → Prop} {u : Value} {tw : Tok}
theorem Inv.coh (I : Inv mx rs ws mn kvs ovs P) : Coh mx kvs ovs where
  co := fun j => by
    by_cases h : j ∈ keys ovs
    · obtain ⟨v, t, e, _⟩ := I.there j h
      rw [e]
      cases q : valueAt ovs j with
      | none => exact absurd h (valueAt_none.mp q)
      | some _ => rfl
    · rw [I.lost j h, valueAt_none.mpr h]
  ln := I.ln
  le := I.le
  m1 := I.m1
  m4 := I.m4
theorem Inv.ordNd (I : Inv mx rs ws mn kvs ovs P) : (keys ovs).Nodup := by
  obtain ⟨a, e⟩ := I.old
  have := I.nd
  rw [e, List.nodup_append] at this
  exact this.2.1
theorem Inv.apart {a : List Int} (I : Inv mx rs ws mn kvs ovs P) (e : rs = a ++ keys ovs) (hk : k ∈ keys ovs) : k ∉ a := fun ha => by
  have := I.nd
  rw [e, List.nodup_append] at this
  exact this.2.2 k ha k hk rfl
theorem del_nodup {l : List Int} (h : l.Nodup) : (del l k).Nodup := h.filter _
theorem snoc_nodup {l : List Int} (h : l.Nodup) : (del l k ++ [k]).Nodup := by
  rw [List.nodup_append]
  refine ⟨del_nodup h, by simp, fun a ha b hb e => ?_⟩
  rw [List.mem_singleton.mp hb] at e
  exact (mem_del.mp ha).2 e
theorem Inv.there' (I : Inv mx rs ws mn kvs ovs P) (hk : k ∈ keys ovs) : ∃ v t u, valueAt kvs k = some (.int v t) ∧ valueAt ovs k = some u ∧ (P k → v = wth ws k) := by
  obtain ⟨v, t, e, p⟩ := I.there k hk
  obtain ⟨u, hu⟩ := I.coh.there e
  exact ⟨v, t, u, e, hu, p⟩
theorem keys_touch : keys (touch ovs k u) = del (keys ovs) k ++ [k] := by
  unfold touch
  show List.map _ _ = _
  rw [List.map_append]
  exact congrArg (· ++ [k]) keys_without
theorem mem_touch {l : List Int} {j : Int} (hk : k ∈ l) : j ∈ del l k ++ [k] ↔ j ∈ l := by
  rw [List.mem_append, List.mem_singleton, mem_del]
  constructor
  · rintro (⟨h, _⟩ | rfl)
    · exact h
    · exact hk
  · intro h
    by_cases e : j = k
    · exact .inr e
    · exact .inl ⟨h, e⟩
theorem rng_snoc (h : ∀ j ∈ rs, 0 ≤ j ∧ j < 6) (hk : 0 ≤ k ∧ k < 6) : ∀ j ∈ del rs k ++ [k], 0 ≤ j ∧ j < 6 := fun j hj => by
  rcases List.mem_append.mp hj with hj | hj
  · exact h j (mem_del.mp hj).1
  · rw [List.mem_singleton.mp hj]; exact hk
theorem Inv.touch (I : Inv mx rs ws mn kvs ovs P) (hk : k ∈ keys ovs) (hr : 0 ≤ k ∧ k < 6) (hu : valueAt ovs k = some u) (hP : ∀ j, P j) : Inv mx (del rs k ++ [k]) ws mn kvs (touch ovs k u) fun _ => True where
  old := by
    obtain ⟨a, e⟩ := I.old
    exact ⟨a, by rw [keys_touch, e, del_append, del_not (I.apart e hk), List.append_assoc]⟩
  nd := snoc_nodup I.nd
  rng := rng_snoc I.rng hr
  mn := by rw [touch_len I.ordNd hu]; exact I.mn
  ln := by rw [touch_len I.ordNd hu]; exact I.ln
  le := I.le
  m1 := I.m1
  m4 := I.m4
  there := fun j hj => by
    rw [keys_touch, mem_touch hk] at hj
    obtain ⟨v, t, e, p⟩ := I.there j hj
    exact ⟨v, t, e, fun _ => p (hP j)⟩
  lost := fun j hj => I.lost j (by rw [keys_touch, mem_touch hk] at hj; exact hj)
theorem Inv.setHit (I : Inv mx rs ws mn kvs ovs P) (hk : k ∈ keys ovs) (hr : 0 ≤ k ∧ k < 6) (hu : valueAt ovs k = some u) (hP : ∀ j, j ≠ k → P j) : Inv mx (del rs k ++ [k]) ws mn (stored kvs k (.int (wth ws k) tw)) (Mine.touch ovs k u) fun _ => True := by
  obtain ⟨v0, t0, e0, _⟩ := I.there k hk
  have hkk : k ∈ keys kvs := valueAt_some e0
  have I2 : Inv mx rs ws mn (stored kvs k (.int (wth ws k) tw)) ovs fun _ => True := ⟨I.old, I.nd, I.rng, I.mn, by rw [stored_len e0]; exact I.ln, by rw [stored_len e0]; exact I.le, I.m1, I.m4, fun j hj => by
    rw [at_map hkk]
    by_cases e : j = k
    · rw [if_pos e]; exact ⟨_, _, rfl, fun _ => by rw [e]⟩
    · rw [if_neg e]
      obtain ⟨v, t, q, p⟩ := I.there j hj
      exact ⟨v, t, q, fun _ => p (hP j e)⟩, fun j hj => by
    rw [at_map hkk, if_neg (fun e : j = k => hj (e.symm ▸ hk))]
    exact I.lost j hj⟩
  exact I2.touch hk hr hu fun _ => trivial
theorem Inv.setMiss (kn : (keys kvs).Nodup) (I : Inv mx rs ws mn kvs ovs P) (hk : k ∉ keys ovs) (hr : 0 ≤ k ∧ k < 6) (hP : ∀ j, j ≠ k → P j) :
    Inv mx (del rs k ++ [k]) ws (if mn + 1 < mx then mn + 1 else mx) (setK mx kvs ovs k (.int (wth ws k) tw)) (setO mx kvs ovs k) fun _ => True := by
  obtain ⟨a, e⟩ := I.old
  have h1 := I.mn
  have h2 := I.ln
  have h3 := I.le
  have h4 := I.m1
  have hl := I.lost k hk
  by_cases room : (kvs.length : Int) < mx
  · unfold setK setO
    rw [if_pos room, if_pos room]
    have hm : (if mn + 1 < mx then mn + 1 else mx) = mn + 1 := by split <;> omega
    rw [hm]
    have hks : keys (ovs ++ [(k, Value.none)]) = keys ovs ++ [k] := List.map_append
    refine ⟨⟨del a k, by rw [hks, e, del_append, del_not hk, List.append_assoc]⟩, snoc_nodup I.nd, rng_snoc I.rng hr, by simp only [List.length_append, List.length_singleton]; omega, by simp only [List.length_append, List.length_singleton]; omega, by simp only [List.length_append, List.length_singleton]; omega, I.m1, I.m4, fun j hj => ?_, fun j hj => ?_⟩
    · rw [at_snoc hl]
      by_cases q : j = k
      · rw [if_pos q]; exact ⟨_, _, rfl, fun _ => by rw [q]⟩
      · rw [if_neg q]
        rw [hks, List.mem_append, List.mem_singleton] at hj
        obtain ⟨v, t, z, p⟩ := I.there j (hj.resolve_right q)
        exact ⟨v, t, z, fun _ => p (hP j q)⟩
    · rw [hks, List.mem_append, List.mem_singleton, not_or] at hj
      rw [at_snoc hl, if_neg hj.2]
      exact I.lost j hj.1
  · unfold setK setO
    rw [if_neg room, if_neg room]
    have hm : (if mn + 1 < mx then mn + 1 else mx) = mx := by split <;> omega
    rw [hm]
    cases ovs with
    | nil => simp only [List.length_nil] at h2; omega
    | cons p r =>
      obtain ⟨k0, u0⟩ := p
      dsimp only [List.tail]
      have hks : keys (r ++ [(k, Value.none)]) = keys r ++ [k] := List.map_append
      have h0 : k0 ∈ keys ((k0, u0) :: r) := .head _
      have hne : k ≠ k0 := fun q => hk (q ▸ h0)
      obtain ⟨v0, t0, e0, _⟩ := I.there k0 h0
      have wl := without_len kn e0
      simp only [List.length_cons] at h1 h2
      have hw : valueAt (without kvs k0) k = none := by rw [at_without, if_neg hne]; exact hl
      have nd2 := I.ordNd
      have hk0r : k0 ∉ keys r := by
        have : (k0 :: keys r).Nodup := nd2
        exact (List.nodup_cons.mp this).1
      refine ⟨⟨del a k ++ [k0], ?_⟩, snoc_nodup I.nd, rng_snoc I.rng hr, by simp only [List.length_append, List.length_singleton]; omega, by simp only [List.length_append, List.length_singleton]; omega, by simp only [List.length_append, List.length_singleton]; omega, I.m1, I.m4, fun j hj => ?_, fun j hj => ?_⟩
      · rw [hks, e, del_append, del_not hk]
        simp
      · rw [at_snoc hw]
        by_cases q : j = k
        · rw [if_pos q]; exact ⟨_, _, rfl, fun _ => by rw [q]⟩
        · rw [if_neg q]
          rw [hks, List.mem_append, List.mem_singleton] at hj
          have hjr := hj.resolve_right q
          have hj0 : j ≠ k0 := fun z => hk0r (z ▸ hjr)
          rw [at_without, if_neg hj0]
          obtain ⟨v, t, z, p⟩ := I.there j (.tail _ hjr)
          exact ⟨v, t, z, fun _ => p (hP j q)⟩
      · rw [hks, List.mem_append, List.mem_singleton, not_or] at hj
        rw [at_snoc hw, if_neg hj.2, at_without]
        by_cases q : j = k0
        · rw [if_pos q]
        · rw [if_neg q]
          refine I.lost j fun z => ?_
          rcases List.mem_cons.mp z with z | z
          · exact q z
          · exact hj.1 z
theorem Inv.delHit (kn : (keys kvs).Nodup) (I : Inv mx rs ws mn kvs ovs P) (hk : k ∈ keys ovs) (hP : ∀ j, P j) : Inv mx (del rs k) ws (mn - 1) (without kvs k) (without ovs k) fun _ => True := by
  obtain ⟨a, e⟩ := I.old
  obtain ⟨v0, t0, u0, e0, eu, _⟩ := I.there' hk
  have h1 := I.mn
  have h2 := I.ln
  have h3 := I.le
  have w1 := without_len kn e0
  have w2 := without_len I.ordNd eu
  refine ⟨⟨a, by rw [keys_without, e, del_append, del_not (I.apart e hk)]⟩, del_nodup I.nd, fun j hj => I.rng j (mem_del.mp hj).1, by omega, by omega, by omega, I.m1, I.m4, fun j hj => ?_, fun j hj => ?_⟩
  · rw [keys_without, mem_del] at hj
    rw [at_without, if_neg hj.2]
    obtain ⟨v, t, z, p⟩ := I.there j hj.1
    exact ⟨v, t, z, fun _ => p (hP j)⟩
  · rw [keys_without, mem_del] at hj
    rw [at_without]
    by_cases q : j = k
    · rw [if_pos q]
    · rw [if_neg q]
      exact I.lost j fun z => hj ⟨z, q⟩
theorem Inv.delMiss (I : Inv mx rs ws mn kvs ovs P) (hk : k ∉ keys ovs) (hP : ∀ j, P j) : Inv mx (del rs k) ws mn kvs ovs fun _ => True := by
  obtain ⟨a, e⟩ := I.old
  exact ⟨⟨del a k, by rw [e, del_append, del_not hk]⟩, del_nodup I.nd, fun j hj => I.rng j (mem_del.mp hj).1, I.mn, I.ln, I.le, I.m1, I.m4, fun j hj => let ⟨v, t, z, p⟩ := I.there j hj; ⟨v, t, z, fun _ => p (hP j)⟩, I.lost⟩
theorem Inv.same (I : Inv mx rs ws mn kvs ovs P) (hP : ∀ j, P j) : Inv mx rs ws mn kvs ovs fun _ => True :=
  ⟨I.old, I.nd, I.rng, I.mn, I.ln, I.le, I.m1, I.m4, fun j hj => let ⟨v, t, z, p⟩ := I.there j hj; ⟨v, t, z, fun _ => p (hP j)⟩, I.lost⟩
theorem Inv.clear (I : Inv mx rs ws mn kvs ovs P) : Inv mx rs ws 0 [] [] fun _ => True :=
  ⟨⟨rs, (List.append_nil _).symm⟩, I.nd, I.rng, rfl, rfl, by have := I.m1; simp only [List.length_nil]; omega, I.m1, I.m4, fun _ h => (nomatch h), fun _ _ => rfl⟩
theorem Inv.pop {k0 : Int} {u0 : Value} {r : List (Int × Value)} (kn : (keys kvs).Nodup) (I : Inv mx rs ws mn kvs ((k0, u0) :: r) P) (hP : ∀ j, P j) : Inv mx rs ws (mn - 1) (without kvs k0) r fun _ => True := by
  obtain ⟨a, e⟩ := I.old
  have h0 : k0 ∈ keys ((k0, u0) :: r) := .head _
  obtain ⟨v0, t0, e0, _⟩ := I.there k0 h0
  have h1 := I.mn
  have h2 := I.ln
  have h3 := I.le
  have w1 := without_len kn e0
  simp only [List.length_cons] at h1 h2
  have hk0r : k0 ∉ keys r := by
    have : (k0 :: keys r).Nodup := I.ordNd
    exact (List.nodup_cons.mp this).1
  refine ⟨⟨a ++ [k0], by rw [e]; simp⟩, I.nd, I.rng, by omega, by omega, by omega, I.m1, I.m4, fun j hj => ?_, fun j hj => ?_⟩
  · have hj0 : j ≠ k0 := fun z => hk0r (z ▸ hj)
    rw [at_without, if_neg hj0]
    obtain ⟨v, t, z, p⟩ := I.there j (.tail _ hj)
    exact ⟨v, t, z, fun _ => p (hP j)⟩
  · rw [at_without]
    by_cases q : j = k0
    · rw [if_pos q]
    · rw [if_neg q]
      refine I.lost j fun z => ?_
      rcases List.mem_cons.mp z with z | z
      · exact q z
      · exact hj z
def tHit (rs : List Int) (k mn : Int) : Bool := decide (k ∈ rs ∧ (rs.length : Int) - (rs.idxOf k : Nat) ≤ mn)
theorem Inv.hit (I : Inv mx rs ws mn kvs ovs P) : tHit rs k mn = decide (k ∈ keys ovs) := by
  obtain ⟨a, e⟩ := I.old
  have h1 := I.mn
  unfold tHit
  congr 1
  apply propext
  have hlen : rs.length = a.length + ovs.length := by rw [e, List.length_append, List.length_map]
  by_cases hk : k ∈ keys ovs
  · have hka := I.apart e hk
    have hi : rs.idxOf k = a.length + (keys ovs).idxOf k := by rw [e, List.idxOf_append, if_neg hka, Nat.add_comm]
    exact ⟨fun _ => hk, fun _ => ⟨by rw [e]; exact List.mem_append_right _ hk, by omega⟩⟩
  · refine ⟨fun ⟨h, h'⟩ => ?_, fun h => absurd h hk⟩
    have hka : k ∈ a := by
      rw [e, List.mem_append] at h
      exact h.resolve_right hk
    have hi : rs.idxOf k = a.idxOf k := by rw [e, List.idxOf_append, if_pos hka]
    have := List.idxOf_lt_length_of_mem hka
    omega
theorem Inv.first {k0 : Int} {u0 : Value} {r : List (Int × Value)} (I : Inv mx rs ws mn kvs ((k0, u0) :: r) P) : rs.getD ((rs.length : Int) - mn).toNat 0 = k0 := by
  obtain ⟨a, e⟩ := I.old
  have h1 := I.mn
  have hlen : rs.length = a.length + (r.length + 1) := by rw [e]; simp
  have : ((rs.length : Int) - mn).toNat = a.length := by simp only [List.length_cons] at h1; omega
  rw [this, e, List.getD_eq_getElem?_getD, List.getElem?_append_right (Nat.le_refl _), Nat.sub_self]
  rfl
end
inductive Ans
  | num (n : Int)
  | word (w : String)
  | pair (a b : Int)
def AnsAt : Ans → Value → Led → Prop
  | .num n, v, ex => (∃ t, v = .int n t) ∧ ex = []
  | .word w, v, ex => (∃ t, v = .str (Str.ofString w) t) ∧ ex = []
  | .pair a b, v, ex => ∃ tp t1 t2 n, v = .ref tp ∧ ex = [(tp, { cls := .type "tuple", data := .seq #[.int a t1, .int b t2] n })]
def tLast (rs : List Int) (mn : Int) : Int := rs.getD ((rs.length : Int) - mn).toNat 0
def tAns (vb k : Int) (ws rs : List Int) (mn : Int) : Ans :=
  if vb < 8 then .num (wth ws k) else if vb = 8 then .word (if tHit rs k mn then "gone" else "lost") else if vb = 9 then (if tHit rs k mn then .num (wth ws k) else .word "none")
  else if vb = 11 then .word "cleared" else if mn = 0 then .word "lost" else .pair (tLast rs mn) (wth ws (tLast rs mn))
def tMany (vb k mx mn : Int) (rs : List Int) : Int :=
  if vb < 8 then (if tHit rs k mn then mn else if mn + 1 < mx then mn + 1 else mx) else if vb = 8 ∨ vb = 9 then (if tHit rs k mn then mn - 1 else mn) else if vb = 11 then 0 else if mn = 0 then 0 else mn - 1
def aft (rs : List Int) (k vb : Int) : List Int := if 9 < vb then rs else if vb < 8 then del rs k ++ [k] else del rs k
end
section
section
variable {prog : Program} {w : World} {A : Around} {E : Value → Shared → Prop} {s : Shared} {L x dx D O : Addr} {hb : Heap} {m mg mb : Str → Option Value} {rest frs : Led} {p : Program} {loose : List Str} {mean : ExcName → Option Value} {l : FrL} {env : Env}
  {mx : Int} {kvs ovs : List (Int × Value)} {k : Int} {t : Tok} {Q : Value → Shared → Prop}
theorem Inv.ofP {mx mn k vb : Int} {rs ws : List Int} {kvs ovs : List (Int × Value)} (_ : Inv mx rs ws mn kvs ovs fun j => vb = 7 → j ≠ k) (h : vb ≠ 7) : ∀ j : Int, vb = 7 → j ≠ k := fun _ e => absurd e h
theorem deed_law {vb mn : Int} {tv tw : Tok} {rs ws : List Int} (C : Cx 26 w A hb L env l p loose mean mg mb) (P0 : Apt x dx D O) (F : Fr hb L s.heap m) (TL : Tl hb [x, dx, D, O] l rest frs) (S : Cache prog w hb L s.heap x dx D O mx kvs ovs (rest ++ frs)) (Hn : A.handled = none)
    (I : Inv mx rs ws mn kvs ovs fun j => vb = 7 → j ≠ k) (b0 : 0 ≤ vb) (b1 : vb < 12) (k0 : 0 ≤ k) (k1 : k < 6)
    (hQ : ∀ h' tk' frs' v ex kvs' ovs', Tl hb [x, dx, D, O] l rest frs' → Fr hb L h' m → Cache prog w hb L h' x dx D O mx kvs' ovs' (ex ++ (rest ++ frs')) → AnsAt (tAns vb k ws rs mn) v ex → Inv mx (aft rs k vb) ws (tMany vb k mx mn rs) kvs' ovs' (fun _ => True) →
      (∀ q ∈ ex, AllLt q.1 (rest ++ frs') ∧ O < q.1) → Q v { s with heap := h', toks := tk' }) :
    wpAny (model prog w) A (call (.ref 906) [.ref x, .int vb tv, .int k t, .int (wth ws k) tw]) Q E s := by
  have kn : (keys kvs).Nodup := by
    obtain ⟨_, _, _, _, _, _, _, _, _, _, _, _, _, hD, _⟩ := S
    exact nodup_of hD
  have ch := I.coh
  have hit := I.hit (k := k)
  have hr : 0 ≤ k ∧ k < 6 := ⟨k0, k1⟩
  have no : ∀ q ∈ ([] : Led), AllLt q.1 (rest ++ frs) ∧ O < q.1 := fun q h => nomatch h
  by_cases hk : k ∈ keys ovs
  · rw [decide_eq_true hk] at hit
    obtain ⟨v, tvv, u, e, hu, pv⟩ := I.there' hk
    rcases (show vb < 3 ∨ (3 ≤ vb ∧ vb < 5) ∨ (5 ≤ vb ∧ vb < 7) ∨ vb = 7 ∨ vb = 8 ∨ vb = 9 ∨ vb = 10 ∨ vb = 11 by omega) with b | ⟨b, b'⟩ | ⟨b, b'⟩ | b | b | b | b | b
    · have hP := I.ofP (show vb ≠ 7 by omega)
      rw [pv (hP k)] at e
      refine deed_a_hit C P0 F TL S Hn ch b e hu fun h' tk' frs' T' F' S' => hQ h' tk' frs' _ [] _ _ T' F' S' ?_ ?_ (fun q h => nomatch h)
      · unfold tAns; rw [if_pos (by omega)]; exact ⟨⟨_, rfl⟩, rfl⟩
      · unfold aft tMany; rw [if_neg (by omega), if_pos (by omega), if_pos (by omega), hit, if_pos rfl]; exact I.touch hk hr hu hP
    · have hP := I.ofP (show vb ≠ 7 by omega)
      rw [pv (hP k)] at e
      refine deed_c_hit C P0 F TL S Hn ch b b' e hu fun h' tk' frs' T' F' S' => hQ h' tk' frs' _ [] _ _ T' F' S' ?_ ?_ (fun q h => nomatch h)
      · unfold tAns; rw [if_pos (by omega)]; exact ⟨⟨_, rfl⟩, rfl⟩
      · unfold aft tMany; rw [if_neg (by omega), if_pos (by omega), if_pos (by omega), hit, if_pos rfl]; exact I.touch hk hr hu hP
    · have hP := I.ofP (show vb ≠ 7 by omega)
      rw [pv (hP k)] at e
      refine deed_e_hit C P0 F TL S Hn ch b b' e hu fun h' tk' frs' T' F' S' => hQ h' tk' frs' _ [] _ _ T' F' S' ?_ ?_ (fun q h => nomatch h)
      · unfold tAns; rw [if_pos (by omega)]; exact ⟨⟨_, rfl⟩, rfl⟩
      · unfold aft tMany; rw [if_neg (by omega), if_pos (by omega), if_pos (by omega), hit, if_pos rfl]; exact I.touch hk hr hu hP
    · refine deed_g_hit C P0 F TL S Hn ch b e hu fun h' tk' frs' T' F' S' => hQ h' tk' frs' _ [] _ _ T' F' S' ?_ ?_ (fun q h => nomatch h)
      · unfold tAns; rw [if_pos (by omega)]; exact ⟨⟨_, rfl⟩, rfl⟩
      · unfold aft tMany; rw [if_neg (by omega), if_pos (by omega), if_pos (by omega), hit, if_pos rfl]; exact I.setHit hk hr hu fun j hj _ => hj
    · have hP := I.ofP (show vb ≠ 7 by omega)
      refine deed_i_hit C P0 F TL S Hn ch b e hu fun h' tk' frs' tr T' F' S' => hQ h' tk' frs' _ [] _ _ T' F' S' ?_ ?_ (fun q h => nomatch h)
      · unfold tAns; rw [if_neg (by omega), if_pos b, hit]; exact ⟨⟨_, rfl⟩, rfl⟩
      · unfold aft tMany; rw [if_neg (by omega), if_neg (by omega), if_neg (by omega), if_pos (.inl b), hit, if_pos rfl]; exact I.delHit kn hk hP
    · have hP := I.ofP (show vb ≠ 7 by omega)
      rw [pv (hP k)] at e
      refine deed_k_hit C P0 F TL S Hn ch b e hu fun h' tk' frs' T' F' S' => hQ h' tk' frs' _ [] _ _ T' F' S' ?_ ?_ (fun q h => nomatch h)
      · unfold tAns; rw [if_neg (by omega), if_neg (by omega), if_pos b, hit, if_pos rfl]; exact ⟨⟨_, rfl⟩, rfl⟩
      · unfold aft tMany; rw [if_neg (by omega), if_neg (by omega), if_neg (by omega), if_pos (.inr b), hit, if_pos rfl]; exact I.delHit kn hk hP
    · have hP := I.ofP (show vb ≠ 7 by omega)
      cases ovs with
      | nil => cases hk
      | cons p r =>
        obtain ⟨k0', u0⟩ := p
        obtain ⟨v0, t0, e0, p0⟩ := I.there k0' (.head _)
        rw [p0 (hP _)] at e0
        have hm : mn ≠ 0 := by have := I.mn; simp only [List.length_cons] at this; omega
        refine deed_m_some C P0 F TL S Hn ch b rfl e0 fun h' tk' frs' tp tt nn T' F' S' l1 l2 => hQ h' tk' frs' _ [_] _ _ T' F' S' ?_ ?_ (fun q h => by rw [List.mem_singleton.mp h]; exact ⟨l1, l2⟩)
        · unfold tAns; rw [if_neg (by omega), if_neg (by omega), if_neg (by omega), if_neg (by omega), if_neg hm, show tLast rs mn = k0' from I.first]; exact ⟨_, _, _, _, rfl, rfl⟩
        · unfold aft tMany; rw [if_pos (by omega), if_neg (by omega), if_neg (by omega), if_neg (by omega), if_neg hm]; exact I.pop kn hP
    · refine deed_o C P0 F TL S Hn ch b fun h' tk' frs' tr T' F' S' => hQ h' tk' frs' _ [] _ _ T' F' S' ?_ ?_ (fun q h => nomatch h)
      · unfold tAns; rw [if_neg (by omega), if_neg (by omega), if_neg (by omega), if_pos b]; exact ⟨⟨_, rfl⟩, rfl⟩
      · unfold aft tMany; rw [if_pos (by omega), if_neg (by omega), if_neg (by omega), if_pos b]; exact I.clear
  · rw [decide_eq_false hk] at hit
    have e := I.lost k hk
    have sm := fun (tw : Tok) (hP : ∀ j, j ≠ k → (vb = 7 → j ≠ k)) => I.setMiss (tw := tw) kn hk hr hP
    rcases (show vb < 3 ∨ (3 ≤ vb ∧ vb < 5) ∨ (5 ≤ vb ∧ vb < 7) ∨ vb = 7 ∨ vb = 8 ∨ vb = 9 ∨ vb = 10 ∨ vb = 11 by omega) with b | ⟨b, b'⟩ | ⟨b, b'⟩ | b | b | b | b | b
    · refine deed_a_miss C P0 F TL S Hn ch b e fun h' tk' frs' T' F' S' => hQ h' tk' frs' _ [] _ _ T' F' S' ?_ ?_ (fun q h => nomatch h)
      · unfold tAns; rw [if_pos (by omega)]; exact ⟨⟨_, rfl⟩, rfl⟩
      · unfold aft tMany; rw [if_neg (by omega), if_pos (by omega), if_pos (by omega), hit, if_neg (by decide)]; exact sm _ fun j hj _ => hj
    · refine deed_c_miss C P0 F TL S Hn ch (by omega) b' e fun h' tk' frs' T' F' S' => hQ h' tk' frs' _ [] _ _ T' F' S' ?_ ?_ (fun q h => nomatch h)
      · unfold tAns; rw [if_pos (by omega)]; exact ⟨⟨_, rfl⟩, rfl⟩
      · unfold aft tMany; rw [if_neg (by omega), if_pos (by omega), if_pos (by omega), hit, if_neg (by decide)]; exact sm _ fun j hj _ => hj
    · refine deed_e_miss C P0 F TL S Hn ch b b' e fun h' tk' frs' T' F' S' => hQ h' tk' frs' _ [] _ _ T' F' S' ?_ ?_ (fun q h => nomatch h)
      · unfold tAns; rw [if_pos (by omega)]; exact ⟨⟨_, rfl⟩, rfl⟩
      · unfold aft tMany; rw [if_neg (by omega), if_pos (by omega), if_pos (by omega), hit, if_neg (by decide)]; exact sm _ fun j hj _ => hj
    · refine deed_g_miss C P0 F TL S Hn ch b e fun h' tk' frs' T' F' S' => hQ h' tk' frs' _ [] _ _ T' F' S' ?_ ?_ (fun q h => nomatch h)
      · unfold tAns; rw [if_pos (by omega)]; exact ⟨⟨_, rfl⟩, rfl⟩
      · unfold aft tMany; rw [if_neg (by omega), if_pos (by omega), if_pos (by omega), hit, if_neg (by decide)]; exact sm _ fun j hj _ => hj
    · have hP := I.ofP (show vb ≠ 7 by omega)
      refine deed_i_miss C P0 F TL S Hn ch b e fun h' tk' frs' tr T' F' S' => hQ h' tk' frs' _ [] _ _ T' F' S' ?_ ?_ (fun q h => nomatch h)
      · unfold tAns; rw [if_neg (by omega), if_pos b, hit]; exact ⟨⟨_, rfl⟩, rfl⟩
      · unfold aft tMany; rw [if_neg (by omega), if_neg (by omega), if_neg (by omega), if_pos (.inl b), hit, if_neg (by decide)]; exact I.delMiss hk hP
    · have hP := I.ofP (show vb ≠ 7 by omega)
      refine deed_k_miss C P0 F TL S Hn ch b e fun h' tk' frs' tr T' F' S' => hQ h' tk' frs' _ [] _ _ T' F' S' ?_ ?_ (fun q h => nomatch h)
      · unfold tAns; rw [if_neg (by omega), if_neg (by omega), if_pos b, hit, if_neg (by decide)]; exact ⟨⟨_, rfl⟩, rfl⟩
      · unfold aft tMany; rw [if_neg (by omega), if_neg (by omega), if_neg (by omega), if_pos (.inr b), hit, if_neg (by decide)]; exact I.delMiss hk hP
    · have hP := I.ofP (show vb ≠ 7 by omega)
      cases ovs with
      | nil =>
        have hm : mn = 0 := I.mn
        refine deed_n C P0 F TL S Hn ch b rfl fun h' tk' frs' tr T' F' S' => hQ h' tk' frs' _ [] _ _ T' F' S' ?_ ?_ (fun q h => nomatch h)
        · unfold tAns; rw [if_neg (by omega), if_neg (by omega), if_neg (by omega), if_neg (by omega), if_pos hm]; exact ⟨⟨_, rfl⟩, rfl⟩
        · unfold aft tMany; rw [if_pos (by omega), if_neg (by omega), if_neg (by omega), if_neg (by omega), if_pos hm]; exact hm ▸ I.same hP
      | cons p r =>
        obtain ⟨k0', u0⟩ := p
        obtain ⟨v0, t0, e0, p0⟩ := I.there k0' (.head _)
        rw [p0 (hP _)] at e0
        have hm : mn ≠ 0 := by have := I.mn; simp only [List.length_cons] at this; omega
        refine deed_m_some C P0 F TL S Hn ch b rfl e0 fun h' tk' frs' tp tt nn T' F' S' l1 l2 => hQ h' tk' frs' _ [_] _ _ T' F' S' ?_ ?_ (fun q h => by rw [List.mem_singleton.mp h]; exact ⟨l1, l2⟩)
        · unfold tAns; rw [if_neg (by omega), if_neg (by omega), if_neg (by omega), if_neg (by omega), if_neg hm, show tLast rs mn = k0' from I.first]; exact ⟨_, _, _, _, rfl, rfl⟩
        · unfold aft tMany; rw [if_pos (by omega), if_neg (by omega), if_neg (by omega), if_neg (by omega), if_neg hm]; exact I.pop kn hP
    · refine deed_o C P0 F TL S Hn ch b fun h' tk' frs' tr T' F' S' => hQ h' tk' frs' _ [] _ _ T' F' S' ?_ ?_ (fun q h => nomatch h)
      · unfold tAns; rw [if_neg (by omega), if_neg (by omega), if_neg (by omega), if_pos b]; exact ⟨⟨_, rfl⟩, rfl⟩
      · unfold aft tMany; rw [if_pos (by omega), if_neg (by omega), if_neg (by omega), if_pos b]; exact I.clear
end
section
variable {prog : Program} {w : World} {A : Around} {E : Value → Shared → Prop} {s : Shared} {L x dx D O : Addr} {hb : Heap} {m mg mb : Str → Option Value} {rest frs : Led} {p : Program} {loose : List Str} {mean : ExcName → Option Value} {l : FrL} {env : Env}
  {mx : Int} {kvs ovs : List (Int × Value)} {k : Int} {t : Tok} {Q : Value → Shared → Prop}
theorem told_law {vb mn kx mx : Int} {tv tk tm tn : Tok} {Wa Ra : Addr} {vw vr : List Value} {ws rs : List Int} {nw nr : Nat} (C : Cx 4 w A hb L env l p loose mean mg mb) (F : Fr hb L s.heap m) (TL : Tl hb [Wa, Ra] l rest frs) (N : News hb L s.heap ((Wa, PySem.W.listOf vw.toArray nw) :: (Ra, PySem.W.listOf vr.toArray nr) :: (rest ++ frs)))
    (iw : IntsAre vw ws) (ir : IntsAre vr rs) (hw : ws.length = 6) (hr : rs.length ≤ 6) (hk0 : 0 ≤ kx) (hk1 : kx < 6) (hm0 : 0 ≤ mn) (hm1 : mn ≤ 4) (hmr : mn ≤ rs.length) (rng : ∀ j ∈ rs, 0 ≤ j ∧ j < 6) (Hn : A.handled = none) (b0 : 0 ≤ vb) (b1 : vb < 12)
    (hQ : ∀ h' tk' frs' tp v ex tb, Tl hb [Wa, Ra] l rest frs' → Fr hb L h' m → News hb L h' ((tp, { cls := .type "tuple", data := .seq #[.bool (tHit rs kx mn), v, .int (tMany vb kx mx mn rs) tb] }) :: (ex ++ (Wa, PySem.W.listOf vw.toArray nw) :: (Ra, PySem.W.listOf vr.toArray nr) :: (rest ++ frs'))) → AnsAt (tAns vb kx ws rs mn) v ex →
      AllLt tp (rest ++ frs') → (∀ q ∈ ex, AllLt q.1 (rest ++ frs')) → Q (.ref tp) { s with heap := h', toks := tk' }) :
    wpAny (model prog w) A (call (.ref 913) [.int vb tv, .int kx tk, .ref Wa, .ref Ra, .int mx tm, .int mn tn]) Q E s := by
  have hl : 0 < mn → 0 ≤ rs.getD ((rs.length : Int) - mn).toNat 0 ∧ rs.getD ((rs.length : Int) - mn).toNat 0 < 6 := fun h => rng _ (kso_getD (by omega))
  have e7 : vb < 8 → tAns vb kx ws rs mn = .num (wth ws kx) ∧ tMany vb kx mx mn rs = if tHit rs kx mn then mn else if mn + 1 < mx then mn + 1 else mx := fun b => ⟨by unfold tAns; rw [if_pos b], by unfold tMany; rw [if_pos b]⟩
  have e8 : vb = 8 → tAns vb kx ws rs mn = .word (if tHit rs kx mn then "gone" else "lost") ∧ tMany vb kx mx mn rs = if tHit rs kx mn then mn - 1 else mn := fun b => ⟨by unfold tAns; rw [if_neg (by omega), if_pos b], by unfold tMany; rw [if_neg (by omega), if_pos (.inl b)]⟩
  have e9 : vb = 9 → tAns vb kx ws rs mn = (if tHit rs kx mn then .num (wth ws kx) else .word "none") ∧ tMany vb kx mx mn rs = if tHit rs kx mn then mn - 1 else mn := fun b => ⟨by unfold tAns; rw [if_neg (by omega), if_neg (by omega), if_pos b], by unfold tMany; rw [if_neg (by omega), if_pos (.inr b)]⟩
  have e11 : vb = 11 → tAns vb kx ws rs mn = .word "cleared" ∧ tMany vb kx mx mn rs = 0 := fun b => ⟨by unfold tAns; rw [if_neg (by omega), if_neg (by omega), if_neg (by omega), if_pos b], by unfold tMany; rw [if_neg (by omega), if_neg (by omega), if_pos b]⟩
  have e10 : vb = 10 → tAns vb kx ws rs mn = (if mn = 0 then .word "lost" else .pair (tLast rs mn) (wth ws (tLast rs mn))) ∧ tMany vb kx mx mn rs = if mn = 0 then 0 else mn - 1 := fun b => ⟨by unfold tAns; rw [if_neg (by omega), if_neg (by omega), if_neg (by omega), if_neg (by omega)], by unfold tMany; rw [if_neg (by omega), if_neg (by omega), if_neg (by omega)]⟩
  by_cases hin : kx ∈ rs
  · by_cases hit : (rs.length : Int) - (rs.idxOf kx : Nat) ≤ mn
    · have ht : tHit rs kx mn = true := decide_eq_true ⟨hin, hit⟩
      simp only [ht, if_true] at e7 e8 e9
      rw [ht] at hQ
      rcases (show vb < 8 ∨ vb = 8 ∨ vb = 9 ∨ vb = 11 ∨ (vb = 10 ∧ mn = 0) ∨ (vb = 10 ∧ 0 < mn) by omega) with b | b | b | b | ⟨b, z⟩ | ⟨b, z⟩
      · rw [(e7 b).1, (e7 b).2] at hQ
        exact told_aH C F TL N iw ir hw hr hk0 hk1 hm0 hm1 Hn b hin hit fun h' tk' frs' tp _ ta tb _ bq T' F' N' l1 e => by subst e; exact hQ h' tk' frs' tp _ [] tb T' F' N' ⟨⟨_, rfl⟩, rfl⟩ l1 fun q h => nomatch h
      · rw [(e8 b).1, (e8 b).2] at hQ
        exact told_iH C F TL N iw ir hw hr hk0 hk1 hm0 hm1 Hn b hin hit fun h' tk' frs' tp _ ta tb _ bq T' F' N' l1 e => by subst e; exact hQ h' tk' frs' tp _ [] tb T' F' N' ⟨⟨_, rfl⟩, rfl⟩ l1 fun q h => nomatch h
      · rw [(e9 b).1, (e9 b).2] at hQ
        exact told_kH C F TL N iw ir hw hr hk0 hk1 hm0 hm1 Hn b hin hit fun h' tk' frs' tp _ ta tb _ bq T' F' N' l1 e => by subst e; exact hQ h' tk' frs' tp _ [] tb T' F' N' ⟨⟨_, rfl⟩, rfl⟩ l1 fun q h => nomatch h
      · rw [(e11 b).1, (e11 b).2] at hQ
        exact told_oH C F TL N iw ir hw hr hk0 hk1 hm0 hm1 Hn b hin hit fun h' tk' frs' tp _ ta tb _ bq T' F' N' l1 e => by subst e; exact hQ h' tk' frs' tp _ [] tb T' F' N' ⟨⟨_, rfl⟩, rfl⟩ l1 fun q h => nomatch h
      · rw [(e10 b).1, (e10 b).2, if_pos z, if_pos z] at hQ
        exact told_nH C F TL N iw ir hw hr hk0 hk1 hm0 hm1 Hn b hin hit z fun h' tk' frs' tp _ ta tb _ bq T' F' N' l1 e => by subst e; exact hQ h' tk' frs' tp _ [] tb T' F' N' ⟨⟨_, rfl⟩, rfl⟩ l1 fun q h => nomatch h
      · rw [(e10 b).1, (e10 b).2, if_neg (by omega), if_neg (by omega)] at hQ
        exact told_mH C F TL N iw ir hw hr hk0 hk1 hm0 hm1 Hn b hin hit z hmr (hl z) fun h' tk' frs' tp t2 ta tb tc bq T' F' N' l1 l2 e => by subst e; exact hQ h' tk' frs' tp _ [_] tb T' F' N' ⟨t2, tc, ta, _, rfl, rfl⟩ l1 fun q h => by rw [List.mem_singleton.mp h]; exact l2
    · have ht : tHit rs kx mn = false := decide_eq_false fun h => hit h.2
      have hit' : mn < (rs.length : Int) - (rs.idxOf kx : Nat) := by omega
      simp only [ht, Bool.false_eq_true, if_false] at e7 e8 e9
      rw [ht] at hQ
      rcases (show vb < 8 ∨ vb = 8 ∨ vb = 9 ∨ vb = 11 ∨ (vb = 10 ∧ mn = 0) ∨ (vb = 10 ∧ 0 < mn) by omega) with b | b | b | b | ⟨b, z⟩ | ⟨b, z⟩
      · rw [(e7 b).1, (e7 b).2] at hQ
        exact told_aM C F TL N iw ir hw hr hk0 hk1 hm0 hm1 Hn b hin hit' fun h' tk' frs' tp _ ta tb _ bq T' F' N' l1 e => by subst e; exact hQ h' tk' frs' tp _ [] tb T' F' N' ⟨⟨_, rfl⟩, rfl⟩ l1 fun q h => nomatch h
      · rw [(e8 b).1, (e8 b).2] at hQ
        exact told_iM C F TL N iw ir hw hr hk0 hk1 hm0 hm1 Hn b hin hit' fun h' tk' frs' tp _ ta tb _ bq T' F' N' l1 e => by subst e; exact hQ h' tk' frs' tp _ [] tb T' F' N' ⟨⟨_, rfl⟩, rfl⟩ l1 fun q h => nomatch h
      · rw [(e9 b).1, (e9 b).2] at hQ
        exact told_kM C F TL N iw ir hw hr hk0 hk1 hm0 hm1 Hn b hin hit' fun h' tk' frs' tp _ ta tb _ bq T' F' N' l1 e => by subst e; exact hQ h' tk' frs' tp _ [] tb T' F' N' ⟨⟨_, rfl⟩, rfl⟩ l1 fun q h => nomatch h
      · rw [(e11 b).1, (e11 b).2] at hQ
        exact told_oM C F TL N iw ir hw hr hk0 hk1 hm0 hm1 Hn b hin hit' fun h' tk' frs' tp _ ta tb _ bq T' F' N' l1 e => by subst e; exact hQ h' tk' frs' tp _ [] tb T' F' N' ⟨⟨_, rfl⟩, rfl⟩ l1 fun q h => nomatch h
      · rw [(e10 b).1, (e10 b).2, if_pos z, if_pos z] at hQ
        exact told_nM C F TL N iw ir hw hr hk0 hk1 hm0 hm1 Hn b hin hit' z fun h' tk' frs' tp _ ta tb _ bq T' F' N' l1 e => by subst e; exact hQ h' tk' frs' tp _ [] tb T' F' N' ⟨⟨_, rfl⟩, rfl⟩ l1 fun q h => nomatch h
      · rw [(e10 b).1, (e10 b).2, if_neg (by omega), if_neg (by omega)] at hQ
        exact told_mM C F TL N iw ir hw hr hk0 hk1 hm0 hm1 Hn b hin hit' z hmr (hl z) fun h' tk' frs' tp t2 ta tb tc bq T' F' N' l1 l2 e => by subst e; exact hQ h' tk' frs' tp _ [_] tb T' F' N' ⟨t2, tc, ta, _, rfl, rfl⟩ l1 fun q h => by rw [List.mem_singleton.mp h]; exact l2
  · have ht : tHit rs kx mn = false := decide_eq_false fun h => hin h.1
    simp only [ht, Bool.false_eq_true, if_false] at e7 e8 e9
    rw [ht] at hQ
    rcases (show vb < 8 ∨ vb = 8 ∨ vb = 9 ∨ vb = 11 ∨ (vb = 10 ∧ mn = 0) ∨ (vb = 10 ∧ 0 < mn) by omega) with b | b | b | b | ⟨b, z⟩ | ⟨b, z⟩
    · rw [(e7 b).1, (e7 b).2] at hQ
      exact told_aX C F TL N iw ir hw hr hk0 hk1 hm0 hm1 Hn b hin fun h' tk' frs' tp _ ta tb _ bq T' F' N' l1 e => by subst e; exact hQ h' tk' frs' tp _ [] tb T' F' N' ⟨⟨_, rfl⟩, rfl⟩ l1 fun q h => nomatch h
    · rw [(e8 b).1, (e8 b).2] at hQ
      exact told_iX C F TL N iw ir hw hr hk0 hk1 hm0 hm1 Hn b hin fun h' tk' frs' tp _ ta tb _ bq T' F' N' l1 e => by subst e; exact hQ h' tk' frs' tp _ [] tb T' F' N' ⟨⟨_, rfl⟩, rfl⟩ l1 fun q h => nomatch h
    · rw [(e9 b).1, (e9 b).2] at hQ
      exact told_kX C F TL N iw ir hw hr hk0 hk1 hm0 hm1 Hn b hin fun h' tk' frs' tp _ ta tb _ bq T' F' N' l1 e => by subst e; exact hQ h' tk' frs' tp _ [] tb T' F' N' ⟨⟨_, rfl⟩, rfl⟩ l1 fun q h => nomatch h
    · rw [(e11 b).1, (e11 b).2] at hQ
      exact told_oX C F TL N iw ir hw hr hk0 hk1 hm0 hm1 Hn b hin fun h' tk' frs' tp _ ta tb _ bq T' F' N' l1 e => by subst e; exact hQ h' tk' frs' tp _ [] tb T' F' N' ⟨⟨_, rfl⟩, rfl⟩ l1 fun q h => nomatch h
    · rw [(e10 b).1, (e10 b).2, if_pos z, if_pos z] at hQ
      exact told_nX C F TL N iw ir hw hr hk0 hk1 hm0 hm1 Hn b hin z fun h' tk' frs' tp _ ta tb _ bq T' F' N' l1 e => by subst e; exact hQ h' tk' frs' tp _ [] tb T' F' N' ⟨⟨_, rfl⟩, rfl⟩ l1 fun q h => nomatch h
    · rw [(e10 b).1, (e10 b).2, if_neg (by omega), if_neg (by omega)] at hQ
      exact told_mX C F TL N iw ir hw hr hk0 hk1 hm0 hm1 Hn b hin z hmr (hl z) fun h' tk' frs' tp t2 ta tb tc bq T' F' N' l1 l2 e => by subst e; exact hQ h' tk' frs' tp _ [_] tb T' F' N' ⟨t2, tc, ta, _, rfl, rfl⟩ l1 fun q h => by rw [List.mem_singleton.mp h]; exact l2
end
end
section
/-- a place where the walk waits -/
def Hold (p : Prop) : Prop := p
theorem hold {p : Prop} (h : Hold p) : p := h
/-- an end where the walk waits -/
structure Pause (p : Prop) : Prop where
  go : p
/-- a store's four entries -/
def Quad (prog : Program) (w : World) (x dx D O : Addr) (mx : Int) (kvs ovs : List (Int × Value)) (q : Led) : Prop :=
  ∃ h1 h2 h3 h4 t1 t2 t3 t4 tc tm oD oO, q = [(x, instObj 897 dx), (dx, dictOf (own h1 h2 h3 h4 t1 t2 t3 t4 D O (kvs.length : Int) mx tc tm) 4), (D, oD), (O, oO)] ∧ oD.IsDictOf (PySem.intKind prog w) kvs ∧ oO.IsDictOf (PySem.intKind prog w) ovs
def Store (prog : Program) (w : World) (rs ws : List Int) (P : Int → Prop) (mx mn : Int) (x : Addr) (q : Led) : Prop :=
  ∃ dx D O kvs ovs, Apt x dx D O ∧ Quad prog w x dx D O mx kvs ovs q ∧ Inv mx rs ws mn kvs ovs P
theorem inv_new {ws : List Int} {mx : Int} (h1 : 1 ≤ mx) (h4 : mx ≤ 4) : Inv mx [] ws 0 [] [] fun _ => True :=
  ⟨⟨[], rfl⟩, List.nodup_nil, fun _ h => (nomatch h), rfl, rfl, by simp only [List.length_nil]; omega, h1, h4, fun _ h => (nomatch h), fun _ _ => rfl⟩
theorem offMem {D : Addr} : ∀ {l : Led}, LCg.Off1 D l → ∀ p ∈ l, p.1 ≠ D
  | [], _, _, h => nomatch h
  | _ :: _, x, p, h => by
    rcases List.mem_cons.mp h with rfl | h
    · exact x.1
    · exact offMem x.2 p h
theorem leN {a b : Addr} (h : @LE.le Nat _ a b) : a ≤ b := h
theorem pack {hb h : Heap} {L S : Addr} {oS : Obj} {c1 c2 c3 c4 : Addr × Obj} {I1 I2 I3 I4 C1 C2 C3 C4 Z1 Z2 Z3 Z4 : Addr × Obj}
    {x1 dx1 D1 O1 x2 dx2 D2 O2 x3 dx3 D3 O3 x4 dx4 D4 O4 : Addr} {od1 od2 od3 od4 oD1 oD2 oD3 oD4 oO1 oO2 oO3 oO4 oe1 oe2 oe3 oe4 : Obj}
    (N : News hb L h ((S, oS) :: (x4, od4) :: (dx4, oe4) :: (D4, oD4) :: (O4, oO4) :: (x3, od3) :: (dx3, oe3) :: (D3, oD3) :: (O3, oO3) :: (x2, od2) :: (dx2, oe2) :: (D2, oD2) :: (O2, oO2) :: (x1, od1) :: (dx1, oe1) :: (D1, oD1) :: (O1, oO1) :: [c4, c3, c2, c1]))
    (o1 : LCg.Off1 S ((x4, od4) :: (dx4, oe4) :: (D4, oD4) :: (O4, oO4) :: (x3, od3) :: (dx3, oe3) :: (D3, oD3) :: (O3, oO3) :: (x2, od2) :: (dx2, oe2) :: (D2, oD2) :: (O2, oO2) :: (x1, od1) :: (dx1, oe1) :: (D1, oD1) :: (O1, oO1) :: [c4, c3, c2, c1]))
    (l1 : ∀ q ∈ I1 :: C1 :: Z1 :: [c4, c3, c2, c1], q.1 < dx1)
    (l2 : ∀ q ∈ I2 :: C2 :: Z2 :: (x1, od1) :: (dx1, oe1) :: (D1, oD1) :: (O1, oO1) :: [c4, c3, c2, c1], q.1 < dx2)
    (l3 : ∀ q ∈ I3 :: C3 :: Z3 :: (x2, od2) :: (dx2, oe2) :: (D2, oD2) :: (O2, oO2) :: (x1, od1) :: (dx1, oe1) :: (D1, oD1) :: (O1, oO1) :: [c4, c3, c2, c1], q.1 < dx3)
    (l4 : ∀ q ∈ I4 :: C4 :: Z4 :: (x3, od3) :: (dx3, oe3) :: (D3, oD3) :: (O3, oO3) :: (x2, od2) :: (dx2, oe2) :: (D2, oD2) :: (O2, oO2) :: (x1, od1) :: (dx1, oe1) :: (D1, oD1) :: (O1, oO1) :: [c4, c3, c2, c1], q.1 < dx4)
    (a1 : dx1 < x1) (b1 : x1 < D1) (e1 : D1 < O1) (a2 : dx2 < x2) (b2 : x2 < D2) (e2 : D2 < O2) (a3 : dx3 < x3) (b3 : x3 < D3) (e3 : D3 < O3) (a4 : dx4 < x4) (b4 : x4 < D4) (e4 : D4 < O4) :
    ∃ q1 q2 q3 q4, q1 = [(x1, od1), (dx1, oe1), (D1, oD1), (O1, oO1)] ∧ q2 = [(x2, od2), (dx2, oe2), (D2, oD2), (O2, oO2)] ∧ q3 = [(x3, od3), (dx3, oe3), (D3, oD3), (O3, oO3)] ∧ q4 = [(x4, od4), (dx4, oe4), (D4, oD4), (O4, oO4)] ∧
      News hb L h ((S, oS) :: c4 :: c3 :: c2 :: c1 :: (q1 ++ (q2 ++ (q3 ++ q4)))) ∧ (∀ q ∈ q1 ++ (q2 ++ (q3 ++ q4)), q.1 ≠ S ∧ c4.1 < q.1 ∧ c3.1 < q.1 ∧ c2.1 < q.1 ∧ c1.1 < q.1) ∧ ((q1 ++ (q2 ++ (q3 ++ q4))).map (·.1)).Nodup := by
  refine ⟨_, _, _, _, rfl, rfl, rfl, rfl, fun q hq => N q ?_, ?_, ?_⟩
  · simp only [List.mem_cons, List.cons_append, List.nil_append, List.not_mem_nil, or_false] at hq ⊢
    rcases hq with h | h | h | h | h | h | h | h | h | h | h | h | h | h | h | h | h | h | h | h | h <;> simp [h]
  all_goals
    simp only [List.forall_mem_cons, List.not_mem_nil, false_imp_iff, implies_true, and_true] at l1 l2 l3 l4
    obtain ⟨-, -, -, l1a, l1b, l1c, l1d⟩ := l1
    obtain ⟨-, -, -, l2a, l2b, l2c, l2d, -⟩ := l2
    obtain ⟨-, -, -, l3a, l3b, l3c, l3d, -⟩ := l3
    obtain ⟨-, -, -, l4a, l4b, l4c, l4d, -⟩ := l4
    replace l1a := ltN l1a; replace l1b := ltN l1b; replace l1c := ltN l1c; replace l1d := ltN l1d
    replace l2d := ltN l2d; replace l3d := ltN l3d; replace l4d := ltN l4d
    replace a1 := ltN a1; replace b1 := ltN b1; replace e1 := ltN e1
    replace a2 := ltN a2; replace b2 := ltN b2; replace e2 := ltN e2
    replace a3 := ltN a3; replace b3 := ltN b3; replace e3 := ltN e3
    replace a4 := ltN a4; replace b4 := ltN b4; replace e4 := ltN e4
    clear l2a l2b l2c l3a l3b l3c l4a l4b l4c
  · intro q hq
    simp only [List.mem_cons, List.cons_append, List.nil_append, List.not_mem_nil, or_false] at hq
    have e : dx1 ≤ q.1 := by
      rcases hq with h | h | h | h | h | h | h | h | h | h | h | h | h | h | h | h <;> (rw [h]; refine leN ?_; dsimp only; omega)
    exact ⟨fun z => offMem o1 q (by simp only [List.mem_cons, List.not_mem_nil, or_false]; rcases hq with h | h | h | h | h | h | h | h | h | h | h | h | h | h | h | h <;> simp [h]) z, Nat.lt_of_lt_of_le l1a e, Nat.lt_of_lt_of_le l1b e, Nat.lt_of_lt_of_le l1c e, Nat.lt_of_lt_of_le l1d e⟩
  · have key : ([dx1, x1, D1, O1, dx2, x2, D2, O2, dx3, x3, D3, O3, dx4, x4, D4, O4] : List Nat).Pairwise (· < ·) := by
      simp only [List.pairwise_cons, List.mem_cons, List.not_mem_nil, or_false, forall_eq_or_imp, forall_eq, false_imp_iff, implies_true, List.Pairwise.nil, and_true]
      omega
    have nd : ([dx1, x1, D1, O1, dx2, x2, D2, O2, dx3, x3, D3, O3, dx4, x4, D4, O4] : List Nat).Nodup := key.imp Nat.ne_of_lt
    have pm : ([x1, dx1, D1, O1, x2, dx2, D2, O2, x3, dx3, D3, O3, x4, dx4, D4, O4] : List Nat).Perm [dx1, x1, D1, O1, dx2, x2, D2, O2, dx3, x3, D3, O3, dx4, x4, D4, O4] :=
      (List.Perm.swap ..).trans (.cons _ (.cons _ (.cons _ (.cons _ ((List.Perm.swap ..).trans (.cons _ (.cons _ (.cons _ (.cons _ ((List.Perm.swap ..).trans (.cons _ (.cons _ (.cons _ (.cons _ (List.Perm.swap ..)))))))))))))))
    exact pm.nodup_iff.mpr nd
theorem neT {a b : Addr} (h : a ≠ b) : @Ne Nat a b := h
section
variable {prog : Program} {w : World} {A : Around} {E : Value → Shared → Prop} {s : Shared} {L x dx D O : Addr} {hb : Heap} {m mg mb : Str → Option Value} {rest frs : Led} {p : Program} {loose : List Str} {mean : ExcName → Option Value} {l : FrL} {env : Env}
  {mx : Int} {kvs ovs : List (Int × Value)} {k : Int} {t : Tok} {Q : Value → Shared → Prop}
theorem tl_nil {hb : Heap} {as : List Addr} {news : Led} (h : Apart as news) : Tl hb as [] news [] := ⟨trivial, by rw [List.append_nil]; exact h, trivial⟩
theorem Tl.frs_nil {hb : Heap} {as : List Addr} {rest frs : Led} (T : Tl hb as [] rest frs) : frs = [] := by
  cases frs with
  | nil => rfl
  | cons p r => exact False.elim T.are
theorem make_top {news : Led} {n : Int} {tn : Tok} (C : Cx 8 w A hb L env [] p loose mean mg mb) (F : Fr hb L s.heap m) (N : News hb L s.heap news) (hn : 0 ≤ n)
    (hQ : ∀ h' tk' x dx D O h1 h2 h3 h4 t1 t2 t3 t4 tc tm oD oO, Fr hb L h' m → News hb L h' ((x, instObj 897 dx) :: (dx, dictOf (own h1 h2 h3 h4 t1 t2 t3 t4 D O 0 n tc tm) 4) :: (D, oD) :: (O, oO) :: news) → oD.IsDictOf (PySem.intKind prog w) [] → oO.IsDictOf (PySem.intKind prog w) [] → Apt x dx D O → (∀ q ∈ news, q.1 < dx) → Q (.ref x) { s with heap := h', toks := tk' }) :
    wpAny (model prog w) A (call (.ref 897) [.int n tn]) Q E s := by
  refine make_ok (rest := news) (frs := []) C F (tl_nil fun _ _ h => nomatch h) (by rw [List.append_nil]; exact N) hn fun h' tk' frs' x dx D O T' F' P' lt S' => ?_
  have e := T'.frs_nil
  subst e
  rw [List.append_nil] at S'
  obtain ⟨h1, h2, h3, h4, t1, t2, t3, t4, tc, tm, oD, oO, N', hD, hO⟩ := S'
  exact hQ h' tk' x dx D O h1 h2 h3 h4 t1 t2 t3 t4 tc tm oD oO F' N' hD hO P' lt
theorem compEnd_quad {h₀ h' : Heap} {L I C D a b c d : Addr} {m : Str → Option Value} {s₁ : Shared} {oI oC oD oa ob oc od : Obj} {tk : Nat} {rest : Value → Led → Prop} {y : Value} {news : Led} (F : Fr h₀ L h' m) (N : News h₀ L h' ((a, oa) :: (b, ob) :: (c, oc) :: (d, od) :: (I, oI) :: (C, oC) :: (D, oD) :: news))
    (l1 : ∀ q ∈ (I, oI) :: (C, oC) :: (D, oD) :: news, q.1 < b) (g1 : b < a) (g2 : a < c) (g3 : c < d) (off : LCg.Off3 I C D news) (r : rest y ((a, oa) :: (b, ob) :: (c, oc) :: (d, od) :: news)) :
    LCg.CompEnd h₀ L m s₁ I oI C oC D oD (fun _ => True) rest y { s₁ with heap := h', toks := tk } := by
  have kI := l1 _ (.head _)
  have kC := l1 _ (.tail _ (.head _))
  have kD := l1 _ (.tail _ (.tail _ (.head _)))
  dsimp only at kI kC kD
  replace kI := ltN kI
  replace kC := ltN kC
  replace kD := ltN kD
  replace g1 := ltN g1
  replace g2 := ltN g2
  replace g3 := ltN g3
  refine LCg.CompEnd.intro F N ((a, oa) :: (b, ob) :: (c, oc) :: (d, od) :: news) (fun p hp => ?_) ⟨⟨neN (by omega), neN (by omega), neN (by omega)⟩, ⟨neN (by omega), neN (by omega), neN (by omega)⟩, ⟨neN (by omega), neN (by omega), neN (by omega)⟩, ⟨neN (by omega), neN (by omega), neN (by omega)⟩, off⟩ trivial r
  simp only [List.mem_cons] at hp ⊢
  rcases hp with h | h | h | h | h | h | h | h <;> simp [h]
theorem nsub {hb h : Heap} {L : Addr} {n n' : Led} (N : News hb L h n) (s : ∀ q ∈ n', q ∈ n) : News hb L h n' := fun q hq => N q (s q hq)
theorem nfn {hb h : Heap} {L a : Addr} {n : Led} {o o' : Obj} (N : News hb L h n) (h1 : (a, o) ∈ n) (h2 : (a, o') ∈ n) : o = o' := Option.some.inj ((N _ h1).1.symm.trans (N _ h2).1)
theorem told_top {news : Led} {vb mn kx : Int} {tv tk tm tn : Tok} {Wa Ra : Addr} {vw vr : List Value} {ws rs : List Int} {nw nr : Nat} (C : Cx 4 w A hb L env [] p loose mean mg mb) (F : Fr hb L s.heap m) (N : News hb L s.heap news) (mW : (Wa, PySem.W.listOf vw.toArray nw) ∈ news) (mR : (Ra, PySem.W.listOf vr.toArray nr) ∈ news)
    (iw : IntsAre vw ws) (ir : IntsAre vr rs) (hw : ws.length = 6) (hr : rs.length ≤ 6) (hk0 : 0 ≤ kx) (hk1 : kx < 6) (hm0 : 0 ≤ mn) (hm1 : mn ≤ 4) (hmr : mn ≤ rs.length) (rng : ∀ j ∈ rs, 0 ≤ j ∧ j < 6) (Hn : A.handled = none) (b0 : 0 ≤ vb) (b1 : vb < 12)
    (hQ : ∀ h' tk' tp v ex tb, Fr hb L h' m → News hb L h' ((tp, { cls := .type "tuple", data := .seq #[.bool (tHit rs kx mn), v, .int (tMany vb kx mx mn rs) tb] }) :: (ex ++ news)) → AnsAt (tAns vb kx ws rs mn) v ex → Q (.ref tp) { s with heap := h', toks := tk' }) :
    wpAny (model prog w) A (call (.ref 913) [.int vb tv, .int kx tk, .ref Wa, .ref Ra, .int mx tm, .int mn tn]) Q E s := by
  refine told_law (nw := nw) (nr := nr) (rest := news.filter fun p => decide (p.1 ∉ [Wa, Ra])) (frs := []) C F (tl_nil fun q hq => by simpa using (List.mem_filter.mp hq).2) (nsub N fun q hq => ?_) iw ir hw hr hk0 hk1 hm0 hm1 hmr rng Hn b0 b1 fun h' tk' frs' tp v ex tb T' F' N' ha _ _ => ?_
  · rw [List.append_nil] at hq
    rcases List.mem_cons.mp hq with rfl | hq
    · exact mW
    · rcases List.mem_cons.mp hq with rfl | hq
      · exact mR
      · exact (List.mem_filter.mp hq).1
  · have e := T'.frs_nil
    subst e
    rw [List.append_nil] at N'
    refine hQ h' tk' tp v ex tb F' (nsub N' fun q hq => ?_) ha
    rcases List.mem_cons.mp hq with rfl | hq
    · exact .head _
    · refine .tail _ ?_
      rcases List.mem_append.mp hq with hq | hq
      · exact List.mem_append_left _ hq
      · refine List.mem_append_right _ ?_
        obtain ⟨a, o⟩ := q
        by_cases e1 : a = Wa
        · subst e1
          rw [nfn N hq mW]; exact .head _
        · by_cases e2 : a = Ra
          · subst e2
            rw [nfn N hq mR]; exact .tail _ (.head _)
          · exact .tail _ (.tail _ (List.mem_filter.mpr ⟨hq, by simp [e1, e2]⟩))
theorem deed_top {vb mn : Int} {tv tw : Tok} {rs ws : List Int} {h1 h2 h3 h4 cs : Int} {t1 t2 t3 t4 tc tm : Tok} {oD oO : Obj} (C : Cx 26 w A hb L env [] p loose mean mg mb) (P0 : Apt x dx D O) (F : Fr hb L s.heap m) (ap : Apart [x, dx, D, O] rest)
    (N : News hb L s.heap ((x, instObj 897 dx) :: (dx, dictOf (own h1 h2 h3 h4 t1 t2 t3 t4 D O cs mx tc tm) 4) :: (D, oD) :: (O, oO) :: rest)) (hcs : cs = (kvs.length : Int)) (hD : oD.IsDictOf (PySem.intKind prog w) kvs) (hO : oO.IsDictOf (PySem.intKind prog w) ovs) (Hn : A.handled = none)
    (I : Inv mx rs ws mn kvs ovs fun j => vb = 7 → j ≠ k) (b0 : 0 ≤ vb) (b1 : vb < 12) (k0 : 0 ≤ k) (k1 : k < 6)
    (hQ : ∀ h' tk' v ex kvs' ovs' h1 h2 h3 h4 t1 t2 t3 t4 tc tm oD oO, Fr hb L h' m → News hb L h' ((x, instObj 897 dx) :: (dx, dictOf (own h1 h2 h3 h4 t1 t2 t3 t4 D O (kvs'.length : Int) mx tc tm) 4) :: (D, oD) :: (O, oO) :: (ex ++ rest)) → oD.IsDictOf (PySem.intKind prog w) kvs' → oO.IsDictOf (PySem.intKind prog w) ovs' → AnsAt (tAns vb k ws rs mn) v ex → Inv mx (aft rs k vb) ws (tMany vb k mx mn rs) kvs' ovs' (fun _ => True) →
      Q v { s with heap := h', toks := tk' }) :
    wpAny (model prog w) A (call (.ref 906) [.ref x, .int vb tv, .int k t, .int (wth ws k) tw]) Q E s := by
  subst hcs
  refine deed_law (rest := rest) (frs := []) C P0 F (tl_nil ap) ⟨_, _, _, _, _, _, _, _, _, _, _, _, by rw [List.append_nil]; exact N, hD, hO⟩ Hn I b0 b1 k0 k1 fun h' tk' frs' v ex kvs' ovs' T' F' S' ha I' _ => ?_
  have e := T'.frs_nil
  subst e
  rw [List.append_nil] at S'
  obtain ⟨h1, h2, h3, h4, t1, t2, t3, t4, tc, tm, oD, oO, N', hD', hO'⟩ := S'
  exact hQ h' tk' v ex kvs' ovs' h1 h2 h3 h4 t1 t2 t3 t4 tc tm oD oO F' N' hD' hO' ha I'
theorem contains_top {h1 h2 h3 h4 cs : Int} {t1 t2 t3 t4 tc tm : Tok} {oD oO : Obj} (C : Cx 5 w A hb L env [] p loose mean mg mb) (P0 : Apt x dx D O) (F : Fr hb L s.heap m) (ap : Apart [x, dx, D, O] rest)
    (N : News hb L s.heap ((x, instObj 897 dx) :: (dx, dictOf (own h1 h2 h3 h4 t1 t2 t3 t4 D O cs mx tc tm) 4) :: (D, oD) :: (O, oO) :: rest)) (hcs : cs = (kvs.length : Int)) (hD : oD.IsDictOf (PySem.intKind prog w) kvs) (hO : oO.IsDictOf (PySem.intKind prog w) ovs)
    (hQ : ∀ h' tk' h1 h2 h3 h4 t1 t2 t3 t4 tc tm oD oO, Fr hb L h' m → News hb L h' ((x, instObj 897 dx) :: (dx, dictOf (own h1 h2 h3 h4 t1 t2 t3 t4 D O (kvs.length : Int) mx tc tm) 4) :: (D, oD) :: (O, oO) :: rest) → oD.IsDictOf (PySem.intKind prog w) kvs → oO.IsDictOf (PySem.intKind prog w) ovs → Q (.bool (valueAt kvs k).isSome) { s with heap := h', toks := tk' }) :
    wpAny (model prog w) A (call (.ref 749) [.ref x, .int k t]) Q E s := by
  subst hcs
  refine contains_ok (rest := rest) (frs := []) C P0 F (tl_nil ap) ⟨_, _, _, _, _, _, _, _, _, _, _, _, by rw [List.append_nil]; exact N, hD, hO⟩ fun h' tk' frs' T' F' S' => ?_
  have e := T'.frs_nil
  subst e
  rw [List.append_nil] at S'
  obtain ⟨h1, h2, h3, h4, t1, t2, t3, t4, tc, tm, oD, oO, N', hD', hO'⟩ := S'
  exact hQ h' tk' h1 h2 h3 h4 t1 t2 t3 t4 tc tm oD oO F' N' hD' hO'
section
variable {h1 h2 h3 h4 cs : Int} {t1 t2 t3 t4 tc tm : Tok} {oD oO : Obj}
theorem iter_top (C : Cx 5 w A hb L env [] p loose mean mg mb) (P0 : Apt x dx D O) (F : Fr hb L s.heap m) (ap : Apart [x, dx, D, O] rest)
    (N : News hb L s.heap ((x, instObj 897 dx) :: (dx, dictOf (own h1 h2 h3 h4 t1 t2 t3 t4 D O cs mx tc tm) 4) :: (D, oD) :: (O, oO) :: rest)) (hcs : cs = (kvs.length : Int)) (hD : oD.IsDictOf (PySem.intKind prog w) kvs) (hO : oO.IsDictOf (PySem.intKind prog w) ovs)
    (hQ : ∀ h' tk' I oI h1 h2 h3 h4 t1 t2 t3 t4 tc tm oD oO ep, Fr hb L h' m → News hb L h' ((I, oI) :: (x, instObj 897 dx) :: (dx, dictOf (own h1 h2 h3 h4 t1 t2 t3 t4 D O (kvs.length : Int) mx tc tm) 4) :: (D, oD) :: (O, oO) :: rest) → oD.IsDictOf (PySem.intKind prog w) kvs → oO.IsDictOf (PySem.intKind prog w) ovs → KdkIter oI D 0 kvs.length ep → KdkAt (PySem.intKind prog w) oD kvs ep → AllLt I rest → Q (.ref I) { s with heap := h', toks := tk' }) :
    wpAny (model prog w) A (call (.ref 763) [.ref x]) Q E s := by
  subst hcs
  refine iter_ok (rest := rest) (frs := []) C P0 F (tl_nil ap) ⟨_, _, _, _, _, _, _, _, _, _, _, _, by rw [List.append_nil]; exact N, hD, hO⟩ fun h' tk' frs' I oI h1 h2 h3 h4 t1 t2 t3 t4 tc tm oD oO ep T' F' N' hD' hO' ki ka lt => ?_
  have e := T'.frs_nil
  subst e
  rw [List.append_nil] at N' lt
  exact hQ h' tk' I oI h1 h2 h3 h4 t1 t2 t3 t4 tc tm oD oO ep F' N' hD' hO' ki ka lt
theorem len_top (C : Cx 5 w A hb L env [] p loose mean mg mb) (P0 : Apt x dx D O) (F : Fr hb L s.heap m) (ap : Apart [x, dx, D, O] rest)
    (N : News hb L s.heap ((x, instObj 897 dx) :: (dx, dictOf (own h1 h2 h3 h4 t1 t2 t3 t4 D O cs mx tc tm) 4) :: (D, oD) :: (O, oO) :: rest)) (hcs : cs = (kvs.length : Int)) (hD : oD.IsDictOf (PySem.intKind prog w) kvs) (hO : oO.IsDictOf (PySem.intKind prog w) ovs) (z : kvs.length ≤ 8)
    (hQ : ∀ h' tk' t h1 h2 h3 h4 t1 t2 t3 t4 tc tm oD oO, Fr hb L h' m → News hb L h' ((x, instObj 897 dx) :: (dx, dictOf (own h1 h2 h3 h4 t1 t2 t3 t4 D O (kvs.length : Int) mx tc tm) 4) :: (D, oD) :: (O, oO) :: rest) → oD.IsDictOf (PySem.intKind prog w) kvs → oO.IsDictOf (PySem.intKind prog w) ovs → Q (.int (kvs.length : Int) t) { s with heap := h', toks := tk' }) :
    wpAny (model prog w) A (call (.ref 770) [.ref x]) Q E s := by
  subst hcs
  refine len_ok (rest := rest) (frs := []) C P0 F (tl_nil ap) ⟨_, _, _, _, _, _, _, _, _, _, _, _, by rw [List.append_nil]; exact N, hD, hO⟩ z fun h' tk' frs' t T' F' S' => ?_
  have e := T'.frs_nil
  subst e
  rw [List.append_nil] at S'
  obtain ⟨h1, h2, h3, h4, t1, t2, t3, t4, tc, tm, oD, oO, N', hD', hO'⟩ := S'
  exact hQ h' tk' t h1 h2 h3 h4 t1 t2 t3 t4 tc tm oD oO F' N' hD' hO'
theorem size_top (C : Cx 5 w A hb L env [] p loose mean mg mb) (P0 : Apt x dx D O) (F : Fr hb L s.heap m) (ap : Apart [x, dx, D, O] rest)
    (N : News hb L s.heap ((x, instObj 897 dx) :: (dx, dictOf (own h1 h2 h3 h4 t1 t2 t3 t4 D O cs mx tc tm) 4) :: (D, oD) :: (O, oO) :: rest)) (hcs : cs = (kvs.length : Int)) (hD : oD.IsDictOf (PySem.intKind prog w) kvs) (hO : oO.IsDictOf (PySem.intKind prog w) ovs)
    (hQ : ∀ h' tk' t h1 h2 h3 h4 t1 t2 t3 t4 tc tm oD oO, Fr hb L h' m → News hb L h' ((x, instObj 897 dx) :: (dx, dictOf (own h1 h2 h3 h4 t1 t2 t3 t4 D O (kvs.length : Int) mx tc tm) 4) :: (D, oD) :: (O, oO) :: rest) → oD.IsDictOf (PySem.intKind prog w) kvs → oO.IsDictOf (PySem.intKind prog w) ovs → Q (.int (kvs.length : Int) t) { s with heap := h', toks := tk' }) :
    wpAny (model prog w) A (call (.ref 816) [.ref x]) Q E s := by
  subst hcs
  refine size_ok (rest := rest) (frs := []) C P0 F (tl_nil ap) ⟨_, _, _, _, _, _, _, _, _, _, _, _, by rw [List.append_nil]; exact N, hD, hO⟩ fun h' tk' frs' t T' F' S' => ?_
  have e := T'.frs_nil
  subst e
  rw [List.append_nil] at S'
  obtain ⟨h1, h2, h3, h4, t1, t2, t3, t4, tc, tm, oD, oO, N', hD', hO'⟩ := S'
  exact hQ h' tk' t h1 h2 h3 h4 t1 t2 t3 t4 tc tm oD oO F' N' hD' hO'
theorem size_gett {expr : Bool} (C : Cx 5 w A hb L env [] p loose mean mg mb) (P0 : Apt x dx D O) (F : Fr hb L s.heap m) (ap : Apart [x, dx, D, O] rest)
    (N : News hb L s.heap ((x, instObj 897 dx) :: (dx, dictOf (own h1 h2 h3 h4 t1 t2 t3 t4 D O cs mx tc tm) 4) :: (D, oD) :: (O, oO) :: rest)) (hcs : cs = (kvs.length : Int)) (hD : oD.IsDictOf (PySem.intKind prog w) kvs) (hO : oO.IsDictOf (PySem.intKind prog w) ovs)
    (hQ : ∀ h' tk' t h1 h2 h3 h4 t1 t2 t3 t4 tc tm oD oO, Fr hb L h' m → News hb L h' ((x, instObj 897 dx) :: (dx, dictOf (own h1 h2 h3 h4 t1 t2 t3 t4 D O (kvs.length : Int) mx tc tm) 4) :: (D, oD) :: (O, oO) :: rest) → oD.IsDictOf (PySem.intKind prog w) kvs → oO.IsDictOf (PySem.intKind prog w) ovs → Q (.int (kvs.length : Int) t) { s with heap := h', toks := tk' }) :
    wpAny (model prog w) A (getAttr (.ref x) (Str.ofString "currsize") expr) Q E s := by
  subst hcs
  refine size_get (rest := rest) (frs := []) C P0 F (tl_nil ap) ⟨_, _, _, _, _, _, _, _, _, _, _, _, by rw [List.append_nil]; exact N, hD, hO⟩ fun h' tk' frs' t T' F' S' => ?_
  have e := T'.frs_nil
  subst e
  rw [List.append_nil] at S'
  obtain ⟨h1, h2, h3, h4, t1, t2, t3, t4, tc, tm, oD, oO, N', hD', hO'⟩ := S'
  exact hQ h' tk' t h1 h2 h3 h4 t1 t2 t3 t4 tc tm oD oO F' N' hD' hO'
end
theorem take_snoc_get {kvs : List (Int × Value)} {i : Nat} {k : Int} {v : Value} (h : kvs[i]? = some (k, v)) : (keys kvs).take (i + 1) = (keys kvs).take i ++ [k] := by
  rw [List.take_add_one]
  congr 1
  show ((kvs.map (·.1))[i]?).toList = [k]
  rw [List.getElem?_map, h]; rfl
theorem comp_turns {scope : Scope} {cl : List (Str × Addr)} {v : Str} {pe : Pos} {s₀ : Shared} {Fin : List Value → Led → Prop} {S : Led → Prop}
    (hk : ∀ C, (compEnvC scope cl C env).scope.kind = .function) (hl : ∀ C, (compEnvC scope cl C env).kindOf v = some .local) (hd : (v == ("__debug__" : Str)) = false)
    (fin : ∀ ys news, IntsAre ys (keys kvs) → S news → Fin ys news) :
    ∀ (j i : Nat) (ys : List Value) (news : Led), i + j = kvs.length → IntsAre ys ((keys kvs).take i) → S news → LCg.CompRest prog w A hb L m env (.Name v pe) v scope cl s₀ S (fun i u => ∃ k x, kvs[i]? = some (k, x) ∧ (PySem.intKind prog w).is k u = true) Fin j i ys news
  | 0, i, ys, news, e, hi, hS => LCg.CompRest.zero (fin ys news (by
      have : (keys kvs).take i = keys kvs := List.take_of_length_le (by rw [List.length_map]; omega)
      rw [this] at hi; exact hi) hS)
  | j + 1, i, ys, news, e, hi, hS => LCg.CompRest.succ (by
      intro u I oI C oC D' m₂ h tk E' hP hC hx F N off ne
      obtain ⟨k, x, hkx, hu⟩ := hP
      obtain ⟨t, rfl⟩ := PySem.Value.isInt_shape hu
      refine LCgL.ld_own N (.tail _ (.head _)) hC hx ?_ (hk C) (hl C) hd
      refine LCg.CompEnd.intro F N news (fun _ hp => hp) off hS ?_
      exact comp_turns hk hl hd fin j (i + 1) _ news (by omega) (by rw [take_snoc_get hkx]; exact IntsAre.append hi (.cons k t .nil)) hS)
theorem comp_store {h1 h2 h3 h4 cs : Int} {t1 t2 t3 t4 tc tm : Tok} {oD oO : Obj} {iter : Expr} {v : Str} {px pe : Pos} {scope : Scope} {cl : List (Str × Addr)} {pos : Pos} (C : Cx 5 w A hb L env [] p loose mean mg mb) (P0 : Apt x dx D O) (F : Fr hb L s.heap m) (ap : Apart [x, dx, D, O] rest) (Hn : A.handled = none)
    (N : News hb L s.heap ((x, instObj 897 dx) :: (dx, dictOf (own h1 h2 h3 h4 t1 t2 t3 t4 D O cs mx tc tm) 4) :: (D, oD) :: (O, oO) :: rest)) (hcs : cs = (kvs.length : Int)) (hD : oD.IsDictOf (PySem.intKind prog w) kvs) (hO : oO.IsDictOf (PySem.intKind prog w) ovs) (z : kvs.length ≤ 8)
    (X₀ : (top.heap_1 w.params).In hb) (hfi : findIn (top.heap_1 w.params) (.ref 897) "__iter__" = some (some (.ref 763))) (hff : isFn (top.heap_1 w.params) (.ref 763) = true)
    (hclos : closureFor scope env = pure cl) (hcell : ∀ y ∈ scope.names, y.2 ≠ .cell) (hkind : scope.kind = .function)
    (hnames : ∀ y ∈ scope.names, y.2 = .local → scope.names.lookup y.1 = some .local) (hx : scope.names.lookup v = some .local)
    (hk : ∀ C, (compEnvC scope cl C env).scope.kind = .function) (hl : ∀ C, (compEnvC scope cl C env).kindOf v = some .local) (hd' : (v == ("__debug__" : Str)) = false)
    (hev : wpAny (model prog w) A (eval iter env) (fun xv s₁ => xv = .ref x ∧ s₁ = s) E s)
    (hQ : ∀ h' tk' G ys h1 h2 h3 h4 t1 t2 t3 t4 tc tm oD oO, Fr hb L h' m → News hb L h' ((G, LCg.lst ys) :: (x, instObj 897 dx) :: (dx, dictOf (own h1 h2 h3 h4 t1 t2 t3 t4 D O (kvs.length : Int) mx tc tm) 4) :: (D, oD) :: (O, oO) :: rest) → oD.IsDictOf (PySem.intKind prog w) kvs → oO.IsDictOf (PySem.intKind prog w) ovs → IntsAre ys (keys kvs) → Q (.ref G) { s with heap := h', toks := tk' })
    (hs : ∀ x, foldedSetIterable iter env x = pure x := by intro _; rfl) :
    wpAny (model prog w) A (eval (.ListComp (.Name v pe) [⟨.Name v px, iter, [], 0⟩] scope pos) env) Q E s := by
  rw [eval_ListComp]
  refine wpAny_comprehension_free (use := none) rfl hs hclos hkind hnames (wpAny_mono hev (fun xv s₁ h₁ => ?_) fun _ _ e => e)
  obtain ⟨rfl, rfl⟩ := h₁
  refine owit_iter F X₀ (InstAt.of_news N (.head _) (.tail _ (.head _))) hfi hff (iter_top C P0 F ap N hcs hD hO fun h' tk' I oI h1 h2 h3 h4 t1 t2 t3 t4 tc tm oD oO ep F' N' hD' hO' ki ka lt => ?_)
  have hI := N' (I, oI) (.head _)
  have hDm := N' (D, oD) (.tail _ (.tail _ (.tail _ (.head _))))
  have hit := ki.at hI.1
  have hda := ka.dictAt hDm.1
  unfold OwitIt
  refine wpAny_specialOf (name := Str.ofString "__next__") hit.typeIs PySem.F.slot_dict_keyiterator_next.lookup ?_
  have hne : D ≠ I := fun e => by
    have q1 := hI.1
    rw [← e, hDm.1] at q1
    have q2 : oD = oI := Option.some.inj q1
    obtain ⟨es, c1, c2, _⟩ := ka
    rw [q2, ki.2] at c2
    cases c2
  obtain ⟨led, eled⟩ : ∃ led, led = (x, instObj 897 dx) :: (dx, dictOf (own h1 h2 h3 h4 t1 t2 t3 t4 D O (kvs.length : Int) mx tc tm) 4) :: (D, oD) :: (O, oO) :: rest := ⟨_, rfl⟩
  rw [← eled] at N'
  have off : ∀ q ∈ led, q.1 ≠ I := fun q hq e => by
    have q1 := (N' q (.tail _ hq)).1
    rw [e, hI.1] at q1
    have q2 : oI = q.2 := Option.some.inj q1
    rw [eled] at hq
    simp only [List.mem_cons] at hq
    have kd := ki.2
    rw [q2] at kd
    have kc := ki.1
    rw [q2] at kc
    rcases hq with rfl | rfl | rfl | rfl | hq
    · cases kc
    · cases kd
    · exact hne e
    · obtain ⟨es, ep', c0, c1, _⟩ := hO'
      dsimp only at kd
      rw [c1] at kd
      cases kd
    · exact allLt_ne lt q hq e
  have mD : (D, oD) ∈ led := by rw [eled]; exact .tail _ (.tail _ (.head _))
  refine LCg.block_U (Walks.dictKeys (knd := PySem.intKind prog w) Hn I D hne kvs ep) (by rw [sizeLine_eq]; omega) (fun i h st => by obtain ⟨o, e, _⟩ := st.1; exact ⟨o, e⟩)
    (S := fun nw => nw = led) (fun i h h' o nw st e e' _ N S => ⟨by obtain ⟨o', q, r⟩ := st.1; rw [e] at q; cases q; exact ⟨o, e', r⟩, ka.dictAt (N _ (S ▸ mD)).1⟩) hcell hkind hx ⟨hit, hda⟩ (fun b hb => ?_) F' (fun q hq => N' q (.tail _ hq)) (Ne.symm hI.2.1) hI.2.2 off rfl
    (comp_turns (Fin := fun ys nw => IntsAre ys (keys kvs) ∧ nw = led) hk hl hd' (fun ys news hi hS => ⟨hi, hS⟩) kvs.length 0 [] _ (Nat.zero_add _) .nil rfl) ?_
  · rcases List.mem_cons.mp hb with rfl | hb
    · exact Heap.lt_size hI.1
    · rw [List.mem_singleton.mp hb]; exact Heap.lt_size hDm.1
  · intro G C h'' tk m' ys news' F'' N'' o1 hn hC₀ hD₀ hCL hDL hCD offC fin
    obtain ⟨fi, rfl⟩ := fin
    refine ⟨m', hn, fun hz hs3 => ?_⟩
    subst eled
    refine hQ hz tk G ys h1 h2 h3 h4 t1 t2 t3 t4 tc tm oD oO (F''.change hs3 hCL hC₀) (fun p hp => ?_) hD' hO' fi
    refine ⟨hs3.extBut _ _ ?_ (N'' p hp).1, (N'' p hp).2⟩
    rcases List.mem_cons.mp hp with rfl | hp
    · exact Ne.symm hCD
    · exact offC p hp
theorem ans_ne {a : Ans} {v1 v2 : Value} {ex1 ex2 news : Led} (h1 : AnsAt a v1 ex1) (h2 : AnsAt a v2 ex2) (N : News hb L s.heap news) (s1 : ∀ q ∈ ex1, q ∈ news) (s2 : ∀ q ∈ ex2, q ∈ news) (hu : A.units + 64 < cLine) (h : Q (.bool false) s) :
    wpAny (model prog w) A (compareOp .NotEq v1 v2) Q E s := by
  cases a with
  | num n =>
    obtain ⟨⟨t1, rfl⟩, _⟩ := h1
    obtain ⟨⟨t2, rfl⟩, _⟩ := h2
    refine PyProof.Rows.ne_int ?_
    rw [show (n != n) = false by simp]
    exact h
  | word x =>
    obtain ⟨⟨t1, rfl⟩, _⟩ := h1
    obtain ⟨⟨t2, rfl⟩, _⟩ := h2
    refine PyProof.Rows.ne_str ?_
    rw [show (Str.ofString x != Str.ofString x) = false by simp]
    exact h
  | pair a b =>
    obtain ⟨p1, x1, y1, n1, rfl, rfl⟩ := h1
    obtain ⟨p2, x2, y2, n2, rfl, rfl⟩ := h2
    have m1 := (N _ (s1 _ (.head _))).1
    have m2 := (N _ (s2 _ (.head _))).1
    refine ne_dataH (reads_tuple_at m1 rfl rfl (.cons (.int _ _) (.cons (.int _ _) .nil))) (reads_tuple_at m2 rfl rfl (.cons (.int _ _) (.cons (.int _ _) .nil))) rfl rfl hu ?_
    have e : PyData.eqv (.tuple [.int a, .int b]) (.tuple [.int a, .int b]) = true := by simp [PyData.eqv, PyData.eqvAll]
    rw [e]
    exact h
theorem For_V {x : Str} {px pos : Pos} {iter : Expr} {body : List Stmt} {Q : Flow → Shared → Prop} (_F : Fr hb env.locals s.heap m) (hx : env.kindOf x = some .local)
    (hp : (env.scope.kind == .class || (env.scope.kind == .module && env.locals != env.globals)) = false)
    (h : wpAny (model prog w) A (eval iter env) (fun xv s₁ => wpAny (model prog w) A (pyIter xv) (fun it s₂ => LoopAtV prog w A hb env x body Q E it s₂) E s₁) E s)
    (hs : ∀ x, foldedSetIterable iter env x = pure x := by intro _; rfl) (hE : PassesOwn (model prog w) A env E := by passes_own) :
    wpAny (model prog w) A (exec (.For (.Name x px) iter body [] pos) env) Q E s := For_invV hb hx hp h hs hE
/-- the end of one turn -/
def TurnEnd (hb : Heap) (L : Addr) (Q : Flow → Shared → Prop) (I : Addr) (oI : Obj) (J : (Str → Option Value) → Led → Prop) (s : Shared) (f : Flow) (s₂ : Shared) : Prop :=
  match f with
  | .ret v => Q (.ret v) s₂
  | .next => Pause (∃ h' tk m' nx, s₂ = { s with heap := h', toks := tk } ∧ Fr hb L h' m' ∧ News hb L h' ((I, oI) :: nx) ∧ (∀ p ∈ nx, p.1 ≠ I) ∧ J m' nx)
  | _ => False
theorem iter_free {x : Str} {body : List Stmt} {Q : Flow → Shared → Prop} {l : Addr} {vs : List Value} {ns : List Int} {nn : Nat} {m₀ : Str → Option Value} {news : Led} (J : Nat → (Str → Option Value) → Led → Prop)
    (hh : A.handled = none) (hl : (l, PySem.W.listOf vs.toArray nn) ∈ news) (hi : IntsAre vs ns) (F : Fr hb env.locals s.heap m₀) (N : News hb env.locals s.heap news) (hj : J 0 m₀ news)
    (turn : ∀ i n t m₁ news₁ h tk I oI, ns[i]? = some n → (∀ p ∈ news₁, p.1 ≠ I) → (∀ p ∈ news, p.1 < I) → (l, PySem.W.listOf vs.toArray nn) ∈ news₁ → J i m₁ news₁ → Fr hb env.locals h (fun y => if y = x then some (.int n t) else m₁ y) → News hb env.locals h ((I, oI) :: news₁) →
      wpAny (model prog w) A (execs body env) (TurnEnd hb env.locals Q I oI (fun m' nx => (l, PySem.W.listOf vs.toArray nn) ∈ nx ∧ J (i + 1) m' nx) s) E { s with heap := h, toks := tk })
    (done : ∀ m₁ news₁ h tk, (l, PySem.W.listOf vs.toArray nn) ∈ news₁ → J ns.length m₁ news₁ → Fr hb env.locals h m₁ → News hb env.locals h news₁ → Q .next { s with heap := h, toks := tk }) :
    wpAny (model prog w) A (pyIter (.ref l)) (fun it s₂ => LoopAtV prog w A hb env x body Q E it s₂) E s := by
  have hol : s.heap.get? l = some (PySem.W.listOf vs.toArray nn) := (N _ hl).1
  have hls : s.heap.IsList l vs.toArray := ⟨_, hol, rfl, nn, rfl⟩
  have hne : l ≠ s.heap.objs.size := Nat.ne_of_lt (Heap.lt_size hol)
  refine wpAny_pyIter_list hls ?_
  have W := Walks.list (prog := prog) (w := w) hh s.heap.objs.size l hne vs.toArray
  have hlen : vs.toArray.size = ns.length := by simp [hi.length]
  rw [hlen] at W
  refine ⟨_, _, _, ns.length, _, _, m₀, news, (fun i m nx => (l, PySem.W.listOf vs.toArray nn) ∈ nx ∧ J i m nx), rfl, W, ?_, ?_, ?_, ⟨⟨_, Heap.get?_push_size _ rfl, rfl, rfl⟩, hls.at fun o e => Heap.get?_push_of_some _ e⟩, F.push _, (fun p hp => ⟨Heap.get?_push_of_some _ (N p hp).1, (N p hp).2⟩), ⟨hl, hj⟩, ?_, ?_⟩
  · intro hm
    rcases List.mem_cons.mp hm with e | hm
    · exact absurd F.ns.lt (e ▸ Nat.lt_irrefl _)
    · exact (N _ hl).2.1 ((List.mem_singleton.mp hm).symm)
  · intro b hb'
    rw [List.mem_singleton.mp hb']
    exact next_is_new F
  · intro p hp hI
    exact absurd (Heap.lt_size (N p hp).1) ((List.mem_singleton.mp hI) ▸ Nat.lt_irrefl _)
  · rintro i v m₁ news₁ s₁ own ⟨hh', tk', rfl⟩ hin hP ⟨hl₁, hJ⟩ hoff hown hget hfp hst F₁ N₁
    have hin' : i < ns.length := hin
    obtain ⟨t, hx⟩ := hi.get i ns[i] (by simp [hin'])
    have hv : v = .int ns[i] t := by
      have hP' : vs[i]? = some v := by simpa using hP
      rw [hx] at hP'; exact (Option.some.inj hP').symm
    subst hv
    obtain ⟨oI, hoI, _⟩ := hst.1
    have mI : (s.heap.objs.size, oI) ∈ own := hfp _ (.head _) (next_is_new F) _ hoI
    have off : ∀ p ∈ news₁, p.1 ≠ s.heap.objs.size := fun p hp e => hoff p hp (List.mem_singleton.mpr e)
    have N₂ : News hb env.locals hh' ((s.heap.objs.size, oI) :: news₁) := fun p hp => N₁ p ((List.mem_cons.mp hp).elim (fun h => h ▸ List.mem_append_left _ mI) fun h => List.mem_append_right _ h)
    refine wpAny_mono (turn i ns[i] t m₁ news₁ hh' tk' s.heap.objs.size oI (by simp [hin']) off (fun p hp => Heap.lt_size (N p hp).1) hl₁ hJ F₁ N₂) (fun f s₂ p => ?_) fun _ _ e => e
    cases f with
    | ret v => exact .ret p
    | brk => exact p.elim
    | cont => exact p.elim
    | next =>
      obtain ⟨⟨h', tk, m', nx, rfl, F', N', ho, hl', hJ'⟩⟩ := p
      refine .next ⟨rfl, h', tk, m', nx, rfl, F', fun q hq => ?_, fun q hq hI => ho q hq (List.mem_singleton.mp hI), hl', hJ'⟩
      rcases List.mem_append.mp hq with hq | hq
      · rcases List.mem_cons.mp (hown q hq) with e1 | e1
        · have e2 : q = (s.heap.objs.size, oI) := Prod.ext e1 (by
            have := hget q hq
            rw [e1] at this
            exact (Option.some.inj (hoI.symm.trans this)).symm)
          rw [e2]
          exact N' _ (.head _)
        · have e1 : q.1 = l := List.mem_singleton.mp e1
          have h2 := hget q hq
          have h3 : hh'.get? l = some (PySem.W.listOf vs.toArray nn) := (N₂ _ (.tail _ hl₁)).1
          have e2 : q = (l, PySem.W.listOf vs.toArray nn) := Prod.ext e1 (by rw [e1, h3] at h2; exact (Option.some.inj h2).symm)
          rw [e2]
          exact N' _ (.tail _ hl')
      · exact N' _ (.tail _ hq)
  · rintro h' tk m' news' F' N' _ ⟨hl', hJ⟩
    exact done m' news' h' tk hl' hJ F' N'
theorem del_len_ge {k : Int} : ∀ {l : List Int}, l.Nodup → l.length ≤ (del l k).length + 1
  | [], _ => Nat.zero_le _
  | j :: r, h => by
    rw [List.nodup_cons] at h
    by_cases e : j = k
    · subst e
      have : del (j :: r) j = del r j := by unfold del; rw [List.filter_cons, if_neg (by simp)]
      rw [this, del_not h.1]; exact Nat.le_refl _
    · have : del (j :: r) k = j :: del r k := by unfold del; rw [List.filter_cons, if_pos (by simp [e])]
      rw [this]
      have := del_len_ge h.2 (k := k)
      simp only [List.length_cons]; omega
theorem nodup_small : ∀ (n : Nat) {l : List Int}, l.Nodup → (∀ j ∈ l, 0 ≤ j ∧ j < (n : Int)) → l.length ≤ n
  | 0, l, _, h => by
    cases l with
    | nil => exact Nat.le_refl _
    | cons j r => have := h j (.head _); omega
  | n + 1, l, hn, h => by
    have h1 := nodup_small n (del_nodup (k := (n : Int)) hn) fun j hj => by
      have a := mem_del.mp hj
      have b := h j a.1
      have c := a.2
      omega
    have h2 := del_len_ge hn (k := (n : Int))
    omega
theorem store_new {q : Led} {n : Int} {h1 h2 h3 h4 : Int} {t1 t2 t3 t4 tc tm : Tok} {oD oO : Obj} {ws : List Int} (e : q = [(x, instObj 897 dx), (dx, dictOf (own h1 h2 h3 h4 t1 t2 t3 t4 D O 0 n tc tm) 4), (D, oD), (O, oO)]) (hD : oD.IsDictOf (PySem.intKind prog w) []) (hO : oO.IsDictOf (PySem.intKind prog w) []) (g1 : dx < x) (g2 : x < D) (g3 : D < O) (l1 : (D == sysModules) = false) (l2 : (O == sysModules) = false) (hn : n = mx) (a : 1 ≤ mx) (b : mx ≤ 4) :
    Store prog w [] ws (fun _ => True) mx 0 x q := by
  subst hn
  exact ⟨dx, D, O, [], [], ⟨g1, g2, g3, l1, l2⟩, ⟨h1, h2, h3, h4, t1, t2, t3, t4, tc, tm, oD, oO, e, hD, hO⟩, inv_new a b⟩
/-- an address that is none of the law's own -/
structure FreeOf (a SL WW NN S c1 c2 c3 c4 : Addr) : Prop where
  sl : a ≠ SL
  w : a ≠ WW
  n : a ≠ NN
  s : a ≠ S
  c1 : a ≠ c1
  c2 : a ≠ c2
  c3 : a ≠ c3
  c4 : a ≠ c4
/-- the frame and the ledger ahead of a turn of the law's main loop -/
structure LawJ (prog : Program) (w : World) (SL WW NN S c1 c2 c3 c4 x1 x2 x3 x4 : Addr) (oSL : Obj) (m : Str → Option Value) (nx : Led) : Prop where
  st : ∃ R vr nr rs vw nw ws vn nn m1 m2 m3 m4 o1 o2 o3 o4 b2 b3 b4 q1 q2 q3 q4,
    nx = (SL, oSL) :: (R, PySem.W.listOf (List.toArray vr) nr) :: (WW, PySem.W.listOf (List.toArray vw) nw) :: (NN, PySem.W.listOf (List.toArray vn) nn) :: (S, LCg.lst [.ref x1, .ref x2, .ref x3, .ref x4]) :: (c4, o4) :: (c3, o3) :: (c2, o2) :: (c1, o1) :: (q1 ++ (q2 ++ (q3 ++ q4))) ∧
    IntsAre vr rs ∧ IntsAre vw ws ∧ IntsAre vn [m1, m2, m3, m4] ∧ ws.length = 6 ∧ o1.data = .cell (some (.ref WW)) ∧ o2.data = .cell b2 ∧ o3.data = .cell b3 ∧ o4.data = .cell b4 ∧
    Store prog w rs ws (fun _ => True) 1 m1 x1 q1 ∧ Store prog w rs ws (fun _ => True) 2 m2 x2 q2 ∧ Store prog w rs ws (fun _ => True) 3 m3 x3 q3 ∧ Store prog w rs ws (fun _ => True) 4 m4 x4 q4 ∧
    ((q1 ++ (q2 ++ (q3 ++ q4))).map (·.1)).Nodup ∧ (∀ q ∈ q1 ++ (q2 ++ (q3 ++ q4)), q.1 ≠ S ∧ c4 < q.1 ∧ c3 < q.1 ∧ c2 < q.1 ∧ c1 < q.1 ∧ q.1 < NN ∧ q.1 ≠ R) ∧ FreeOf R SL WW NN S c1 c2 c3 c4 ∧
    m "recent" = some (.ref R)
  ms : m "stores" = some (.ref S)
  mn : m "numbers" = some (.ref NN)
/-- the order of the law's own addresses -/
structure Ords (SL WW NN S c1 c2 c3 c4 : Addr) : Prop where
  a1 : c1 < c2
  a2 : c2 < c3
  a3 : c3 < c4
  a4 : c4 < NN
  s1 : S ≠ c1
  s2 : S ≠ c2
  s3 : S ≠ c3
  s4 : S ≠ c4
  b1 : S < NN
  b2 : NN < WW
  b3 : WW < SL
theorem free_above {SL WW NN S c1 c2 c3 c4 R : Addr} (W : Ords SL WW NN S c1 c2 c3 c4) (r1 : WW < R) (r2 : R ≠ SL) : FreeOf R SL WW NN S c1 c2 c3 c4 := by
  obtain ⟨w1, w2, w3, w4, w5, w6, w7, w8, w9, w10, w11⟩ := W
  replace w1 := ltN w1; replace w2 := ltN w2; replace w3 := ltN w3; replace w4 := ltN w4; replace w9 := ltN w9; replace w10 := ltN w10; replace r1 := ltN r1
  exact ⟨r2, neN (by omega), neN (by omega), neN (by omega), neN (by omega), neN (by omega), neN (by omega), neN (by omega)⟩
theorem main_loop {body : List Stmt} {Q : Flow → Shared → Prop} {SL WW NN S c1 c2 c3 c4 x1 x2 x3 x4 R : Addr} {vs vw vn : List Value} {ns : List Int} {n0 nr nw nn : Nat} {o1 o2 o3 o4 : Obj} {b2 b3 b4 : Option Value} {q1 q2 q3 q4 : Led} {vr : List Value}
    (hh : A.handled = none) (F : Fr hb env.locals s.heap m) (N : News hb env.locals s.heap ((SL, PySem.W.listOf vs.toArray n0) :: (R, PySem.W.listOf (List.toArray vr) nr) :: (WW, PySem.W.listOf (List.toArray vw) nw) :: (NN, PySem.W.listOf (List.toArray vn) nn) :: (S, LCg.lst [.ref x1, .ref x2, .ref x3, .ref x4]) :: (c4, o4) :: (c3, o3) :: (c2, o2) :: (c1, o1) :: (q1 ++ (q2 ++ (q3 ++ q4)))))
    (hi : IntsAre vs ns) (ir : IntsAre vr []) (iw : IntsAre vw [0, 1, 2, 3, 4, 5]) (inn : IntsAre vn [0, 0, 0, 0]) (d1 : o1.data = .cell (some (.ref WW))) (d2 : o2.data = .cell b2) (d3 : o3.data = .cell b3) (d4 : o4.data = .cell b4)
    (s1 : Store prog w [] [0, 1, 2, 3, 4, 5] (fun _ => True) 1 0 x1 q1) (s2 : Store prog w [] [0, 1, 2, 3, 4, 5] (fun _ => True) 2 0 x2 q2) (s3 : Store prog w [] [0, 1, 2, 3, 4, 5] (fun _ => True) 3 0 x3 q3) (s4 : Store prog w [] [0, 1, 2, 3, 4, 5] (fun _ => True) 4 0 x4 q4)
    (nd : ((q1 ++ (q2 ++ (q3 ++ q4))).map (·.1)).Nodup) (rg : ∀ q ∈ q1 ++ (q2 ++ (q3 ++ q4)), q.1 ≠ S ∧ c4 < q.1 ∧ c3 < q.1 ∧ c2 < q.1 ∧ c1 < q.1) (lt : AllLt NN (q1 ++ (q2 ++ (q3 ++ q4)))) (W : Ords SL WW NN S c1 c2 c3 c4) (r1 : WW < R) (r2 : R ≠ SL)
    (m1 : m "stores" = some (.ref S)) (m2 : m "numbers" = some (.ref NN)) (m3 : m "recent" = some (.ref R))
    (turn : ∀ (s : Shared) n t m₁ news₁ h tk I oI, (∀ p ∈ news₁, p.1 ≠ I) → SL < I → LawJ prog w SL WW NN S c1 c2 c3 c4 x1 x2 x3 x4 (PySem.W.listOf vs.toArray n0) m₁ news₁ → Ords SL WW NN S c1 c2 c3 c4 → Fr hb env.locals h (fun y => if y = "number" then some (.int n t) else m₁ y) → News hb env.locals h ((I, oI) :: news₁) →
      wpAny (model prog w) A (execs body env) (TurnEnd hb env.locals Q I oI (fun m' nx => LawJ prog w SL WW NN S c1 c2 c3 c4 x1 x2 x3 x4 (PySem.W.listOf vs.toArray n0) m' nx) s) E { s with heap := h, toks := tk })
    (done : ∀ m₁ news₁ h tk, LawJ prog w SL WW NN S c1 c2 c3 c4 x1 x2 x3 x4 (PySem.W.listOf vs.toArray n0) m₁ news₁ → Ords SL WW NN S c1 c2 c3 c4 → Fr hb env.locals h m₁ → News hb env.locals h news₁ → Q .next { s with heap := h, toks := tk }) :
    wpAny (model prog w) A (pyIter (.ref SL)) (fun it s₂ => LoopAtV prog w A hb env "number" body Q E it s₂) E s := by
  refine iter_free (fun _ m nx => LawJ prog w SL WW NN S c1 c2 c3 c4 x1 x2 x3 x4 (PySem.W.listOf vs.toArray n0) m nx) hh (.head _) hi F N
    ⟨⟨R, vr, nr, [], vw, nw, [0, 1, 2, 3, 4, 5], vn, nn, 0, 0, 0, 0, o1, o2, o3, o4, b2, b3, b4, q1, q2, q3, q4, rfl, ir, iw, inn, rfl, d1, d2, d3, d4, s1, s2, s3, s4, nd, fun q hq => ⟨(rg q hq).1, (rg q hq).2.1, (rg q hq).2.2.1, (rg q hq).2.2.2.1, (rg q hq).2.2.2.2, allLt_mem lt q hq, Nat.ne_of_lt (Nat.lt_trans (allLt_mem lt q hq) (Nat.lt_trans W.b2 r1))⟩, free_above W r1 r2, m3⟩, m1, m2⟩ ?_ ?_
  · intro i n t m₁ news₁ h tk I oI _ off lt' hl J F₁ N₁
    refine wpAny_mono (turn _ n t m₁ news₁ h tk I oI off (lt' _ (.head _)) J W F₁ N₁) (fun f s₂ p => ?_) fun _ _ e => e
    cases f with
    | ret v => exact p
    | brk => exact p
    | cont => exact p
    | next =>
      obtain ⟨⟨h', tk', m', nx, e, F', N', off', J'⟩⟩ := p
      refine ⟨⟨h', tk', m', nx, e, F', N', off', ?_, J'⟩⟩
      obtain ⟨R', vr', nr', rs', vw', nw', ws', vn', nn', z1, z2, z3, z4, p1, p2, p3, p4, y2, y3, y4, u1, u2, u3, u4, e', _⟩ := J'.st
      rw [e']; exact .head _
  · intro m₁ news₁ h tk _ J F₁ N₁
    exact done m₁ news₁ h tk J W F₁ N₁
theorem known3 {m : Str → Option Value} {a b c : Str} {va vb vc : Value} (h1 : m a = some va) (h2 : m b = some vb) (h3 : m c = some vc) : ∃ u : Str → Option Value, m = fun y => if y = a then some va else if y = b then some vb else if y = c then some vc else u y := ⟨m, by
  funext y
  by_cases e1 : y = a
  · rw [if_pos e1, e1, h1]
  · by_cases e2 : y = b
    · rw [if_neg e1, if_pos e2, e2, h2]
    · by_cases e3 : y = c
      · rw [if_neg e1, if_neg e2, if_pos e3, e3, h3]
      · rw [if_neg e1, if_neg e2, if_neg e3]⟩
theorem filter_turns {scope : Scope} {cl : List (Str × Addr)} {x : Str} {pe : Pos} {ct : Expr} {s₀ : Shared} {Fin : List Value → Led → Prop} {news : Led} {vs : List Value} {ns : List Int} {S : Led → Prop} (pf : Int → Bool)
    (hk : ∀ C, (compEnvC scope cl C env).scope.kind = .function) (hl : ∀ C, (compEnvC scope cl C env).kindOf x = some .local) (hd : (x == ("__debug__" : Str)) = false) (hi : IntsAre vs ns) (hS : S news)
    (test : ∀ k t I oI C oC D' ys m₂ h tk (E' : Value → Shared → Prop), LCg.NsObj oC m₂ → m₂ x = some (.int k t) → Fr hb L h m → News hb L h ((I, oI) :: (C, oC) :: (D', LCg.lst ys) :: news) →
      wpAny (model prog w) A (isTrue ct (compEnvC scope cl C env) (eval ct (compEnvC scope cl C env))) (fun ok s' => ok = pf k ∧ ∃ tk', s' = { s₀ with heap := h, toks := tk' }) E' { s₀ with heap := h, toks := tk })
    (fin : ∀ ys, IntsAre ys (ns.filter pf) → Fin ys news) :
    ∀ (j i : Nat) (ys : List Value), i + j = vs.toArray.size → IntsAre ys ((ns.take i).filter pf) → LCt.CompRestT prog w A hb L m env ct (.Name x pe) x scope cl s₀ S (fun i v => vs.toArray[i]? = some v) Fin j i ys news
  | 0, i, ys, e, hy => LCt.CompRestT.zero (fin ys (by
      have hlen : vs.toArray.size = ns.length := by simp [hi.length]
      have : ns.take i = ns := List.take_of_length_le (by omega)
      rw [this] at hy; exact hy))
  | j + 1, i, ys, e, hy => LCt.CompRestT.succ (by
      have hlen : vs.toArray.size = ns.length := by simp [hi.length]
      intro u I oI C oC D' m₂ h tk E' hP hC hx F N off ne
      obtain ⟨t, ht⟩ := hi.get i ns[i] (by simp [show i < ns.length by omega])
      have hu : u = .int ns[i] t := by
        have hP' : vs[i]? = some u := by simpa using hP
        rw [ht] at hP'; exact (Option.some.inj hP').symm
      subst hu
      have hs : (ns.take (i + 1)).filter pf = (ns.take i).filter pf ++ (if pf ns[i] then [ns[i]] else []) := by
        rw [List.take_add_one, List.filter_append, List.getElem?_eq_getElem (show i < ns.length by omega)]
        congr 1
        show [ns[i]].filter pf = _
        rw [List.filter_cons]
        split <;> rfl
      refine wpAny_mono (test _ t I oI C oC D' ys m₂ h tk E' hC hx F N) (fun ok s' q => ?_) fun _ _ z => z
      obtain ⟨rfl, tk', rfl⟩ := q
      cases hp : pf ns[i] with
      | true =>
        rw [if_pos rfl]
        refine LCgL.ld_own N (.tail _ (.head _)) hC hx ?_ (hk C) (hl C) hd
        refine LCg.CompEnd.intro F N news (fun _ hp => hp) off hS ?_
        refine filter_turns pf hk hl hd hi hS test fin j (i + 1) _ (by omega) ?_
        rw [hs, hp, if_pos rfl]
        exact IntsAre.append hy (.cons _ t .nil)
      | false =>
        rw [if_neg (by decide)]
        refine LCg.CompEnd.intro F N news (fun _ hp => hp) off hS ?_
        refine filter_turns pf hk hl hd hi hS test fin j (i + 1) _ (by omega) ?_
        rw [hs, hp, if_neg (by decide), List.append_nil]
        exact hy)
/-- what the frame knows all through the inner loop -/
structure Knows (m : Str → Option Value) (S NN R AA : Addr) : Prop where
  a : m "stores" = some (.ref S)
  b : m "numbers" = some (.ref NN)
  c : m "recent" = some (.ref R)
  d : m "after" = some (.ref AA)
/-- the ledger in the inner loop, but for the stores' own entries -/
abbrev Front (AA I SL R WW NN S c1 c2 c3 c4 : Addr) (oA oI oSL oR oW oN oS o1 o2 o3 o4 : Obj) (tl : Led) : Led :=
  (AA, oA) :: (I, oI) :: (SL, oSL) :: (R, oR) :: (WW, oW) :: (NN, oN) :: (S, oS) :: (c4, o4) :: (c3, o3) :: (c2, o2) :: (c1, o1) :: tl
/-- the inner loop's turn: one store -/
def TurnOK (prog : Program) (w : World) (A : Around) (hb : Heap) (env : Env) (target : Expr) (body : List Stmt) (c1 c2 c3 c4 : Addr) : Prop :=
  ∀ (s : Shared) (E : Value → Shared → Prop) (m : Str → Option Value) (T e it : Addr) (oe oit : Obj) (t : Tok) (i : Nat) (x : Addr) (q os : Led) (mn : Int) (AA I SL R WW NN S : Addr) (oI oSL oS o1 o2 o3 o4 : Obj) (b4 : Option Value) (va vr vw vn : List Value) (na nr nw nn : Nat) (rs ws ns : List Int) (vb kx : Int) (tv tk : Tok),
    i < 4 → ns.length = 4 → ns[i]? = some mn → IsTup s.heap T #[.int (i : Int) t, .ref x] → Fr hb env.locals s.heap m → Knows m S NN R AA →
    News hb env.locals s.heap ((e, oe) :: (it, oit) :: Front AA I SL R WW NN S c1 c2 c3 c4 (PySem.W.listOf (List.toArray va) na) oI oSL (PySem.W.listOf (List.toArray vr) nr) (PySem.W.listOf (List.toArray vw) nw) (PySem.W.listOf (List.toArray vn) nn) oS o1 o2 o3 o4 (q ++ os)) →
    IntsAre va (aft rs kx vb) → IntsAre vr rs → IntsAre vw ws → IntsAre vn ns → ws.length = 6 → o1.data = .cell (some (.ref WW)) → o2.data = .cell (some (.int vb tv)) → o3.data = .cell (some (.int kx tk)) → o4.data = .cell b4 →
    Store prog w rs ws (fun j => vb = 7 → j ≠ kx) ((i : Int) + 1) mn x q → 0 ≤ vb → vb < 12 → 0 ≤ kx → kx < 6 →
    Ords SL WW NN S c1 c2 c3 c4 → FreeOf R SL WW NN S c1 c2 c3 c4 → SL < I → FreeOf AA SL WW NN S c1 c2 c3 c4 → (AA < it ∧ I < it ∧ SL < it ∧ R < it) → it < e →
    (∀ p ∈ q ++ os, p.1 ≠ S ∧ c4 < p.1 ∧ c3 < p.1 ∧ c2 < p.1 ∧ c1 < p.1 ∧ p.1 < NN ∧ p.1 ≠ R ∧ p.1 ≠ AA) → (∀ p ∈ q, ∀ z ∈ os, p.1 ≠ z.1) →
    wpAny (model prog w) A (assign target env (.ref T)) (fun _ s₂ => wpAny (model prog w) A (execs body env) (fun f s₃ => Pause (f = .next ∧ ∃ h' tk' m' q' vn' nn' o4' b4', s₃ = { s with heap := h', toks := tk' } ∧ Fr hb env.locals h' m' ∧ Knows m' S NN R AA ∧
      News hb env.locals h' ((e, oe) :: (it, oit) :: Front AA I SL R WW NN S c1 c2 c3 c4 (PySem.W.listOf (List.toArray va) na) oI oSL (PySem.W.listOf (List.toArray vr) nr) (PySem.W.listOf (List.toArray vw) nw) (PySem.W.listOf (List.toArray vn') nn') oS o1 o2 o3 o4' (q' ++ os)) ∧
      IntsAre vn' (ns.set i (tMany vb kx ((i : Int) + 1) mn rs)) ∧ o4'.data = .cell b4' ∧ q'.map (·.1) = q.map (·.1) ∧ Store prog w (aft rs kx vb) ws (fun _ => True) ((i : Int) + 1) (tMany vb kx ((i : Int) + 1) mn rs) x q')) E s₂) E s
theorem known4 {m : Str → Option Value} {a b c d : Str} {va vb vc vd : Value} (h1 : m a = some va) (h2 : m b = some vb) (h3 : m c = some vc) (h4 : m d = some vd) : ∃ u : Str → Option Value, m = fun y => if y = a then some va else if y = b then some vb else if y = c then some vc else if y = d then some vd else u y := ⟨m, by
  funext y
  by_cases e1 : y = a
  · rw [if_pos e1, e1, h1]
  · by_cases e2 : y = b
    · rw [if_neg e1, if_pos e2, e2, h2]
    · by_cases e3 : y = c
      · rw [if_neg e1, if_neg e2, if_pos e3, e3, h3]
      · by_cases e4 : y = d
        · rw [if_neg e1, if_neg e2, if_neg e3, if_pos e4, e4, h4]
        · rw [if_neg e1, if_neg e2, if_neg e3, if_neg e4]⟩
theorem turn_order {h : Heap} {a b c d e1 e2 f1 f2 f3 f4 f5 f6 f7 f8 f9 f10 f11 : Addr × Obj} {os : Led} (N : News hb L h (e1 :: e2 :: f1 :: f2 :: f3 :: f4 :: f5 :: f6 :: f7 :: f8 :: f9 :: f10 :: f11 :: ([a, b, c, d] ++ os))) : News hb L h (a :: b :: c :: d :: e1 :: e2 :: f1 :: f2 :: f3 :: f4 :: f5 :: f6 :: f7 :: f8 :: f9 :: f10 :: f11 :: os) := nsub N fun q hq => by
  simp only [List.mem_cons, List.cons_append, List.nil_append] at hq ⊢
  rcases hq with h | h | h | h | h | h | h | h | h | h | h | h | h | h | h | h | h | h <;> simp [h]
/-- what is known of the addresses of a store's entry -/
structure Spot (S NN R AA c1 c2 c3 c4 a : Addr) : Prop where
  s : @Ne Nat a S
  a4 : @LT.lt Nat _ c4 a
  a3 : @LT.lt Nat _ c3 a
  a2 : @LT.lt Nat _ c2 a
  a1 : @LT.lt Nat _ c1 a
  n : @LT.lt Nat _ a NN
  r : @Ne Nat a R
  aa : @Ne Nat a AA
theorem for_inner {target iter : Expr} {body : List Stmt} {pos : Pos} {Q : Flow → Shared → Prop} {a1 a2 a3 a4 a5 a6 a7 a8 : Addr × Obj} {c1 c2 c3 c4 : Addr} {o1 o2 o3 o4 : Obj} {tl : Led} (_F : Fr hb env.locals s.heap m) (_N : News hb env.locals s.heap (a1 :: a2 :: a3 :: a4 :: a5 :: a6 :: a7 :: a8 :: (c4, o4) :: (c3, o3) :: (c2, o2) :: (c1, o1) :: tl))
    (h : TurnOK prog w A hb env target body c1 c2 c3 c4) (k : TurnOK prog w A hb env target body c1 c2 c3 c4 → wpAny (model prog w) A (exec (.For target iter body [] pos) env) Q E s) : wpAny (model prog w) A (exec (.For target iter body [] pos) env) Q E s := k h
theorem told_order {h : Heap} {tp a b c d : Addr × Obj} {ex rest : Led} (N : News hb L h (tp :: (ex ++ (a :: b :: c :: d :: rest)))) : News hb L h (a :: b :: c :: d :: tp :: (ex ++ rest)) := nsub N fun q hq => by
  simp only [List.mem_cons, List.mem_append] at hq ⊢
  rcases hq with h | h | h | h | h | h | h <;> simp [h]
theorem apart_sub {as : List Addr} {a b : Led} (h : Apart as a) (e : ∀ q ∈ b, q ∈ a) : Apart as b := fun q hq => h q (e q hq)
theorem apart_map {as : List Addr} {a b : Led} (h : Apart as a) (e : b.map (·.1) = a.map (·.1)) : Apart as b := fun p hp => by
  have : p.1 ∈ a.map (·.1) := e ▸ List.mem_map_of_mem hp
  obtain ⟨q, hq, e⟩ := List.mem_map.mp this
  exact e ▸ h q hq
theorem Inv.memKeys {mx mn j : Int} {rs ws : List Int} {kvs ovs : List (Int × Value)} {P : Int → Prop} (I : Inv mx rs ws mn kvs ovs P) : j ∈ keys kvs ↔ j ∈ keys ovs := by
  constructor
  · intro h
    refine Classical.byContradiction fun n => ?_
    exact valueAt_none.mp (I.lost j n) h
  · intro h
    obtain ⟨v, t, e, _⟩ := I.there j h
    exact valueAt_some e
theorem Inv.perm {mx mn : Int} {rs ws : List Int} {kvs ovs : List (Int × Value)} {P : Int → Prop} (I : Inv mx rs ws mn kvs ovs P) (kn : (keys kvs).Nodup) : (keys kvs).Perm (keys ovs) :=
  (List.perm_ext_iff_of_nodup kn I.ordNd).mpr fun _ => I.memKeys
theorem Inv.tail {mx mn : Int} {rs ws : List Int} {kvs ovs : List (Int × Value)} {P : Int → Prop} (I : Inv mx rs ws mn kvs ovs P) : rs.drop ((rs.length : Int) - mn).toNat = keys ovs := by
  obtain ⟨a, e⟩ := I.old
  have e1 := I.mn
  have e2 : ((rs.length : Int) - mn).toNat = a.length := by
    rw [e, List.length_append, List.length_map]; omega
  rw [e2, e, List.drop_left]
theorem Inv.len {mx mn : Int} {rs ws : List Int} {kvs ovs : List (Int × Value)} {P : Int → Prop} (I : Inv mx rs ws mn kvs ovs P) : mn ≤ (rs.length : Int) ∧ 0 ≤ mn ∧ mn ≤ 4 ∧ rs.length ≤ 6 ∧ (kvs.length : Int) = mn := by
  obtain ⟨a, e⟩ := I.old
  have e1 := I.mn
  have e2 := I.ln
  have e3 := I.le
  have e4 := I.m4
  have e5 := nodup_small 6 I.nd I.rng
  have e6 : rs.length = a.length + ovs.length := by rw [e, List.length_append, List.length_map]
  omega
/-- an answer as it stands in the heap -/
def AnsH : Ans → Value → Heap → Prop
  | .num n, v, _ => ∃ t, v = .int n t
  | .word w, v, _ => ∃ t, v = .str (Str.ofString w) t
  | .pair a b, v, h => ∃ tp t1 t2 n, v = .ref tp ∧ h.get? tp = some { cls := .type "tuple", data := .seq #[.int a t1, .int b t2] n }
theorem AnsAt.up {a : Ans} {v : Value} {ex : Led} {h : Heap} (x : AnsAt a v ex) (k : ∀ q ∈ ex, h.get? q.1 = some q.2) : AnsH a v h := by
  cases a with
  | num n => exact x.1
  | word n => exact x.1
  | pair a b =>
    obtain ⟨tp, t1, t2, n, e, rfl⟩ := x
    exact ⟨tp, t1, t2, n, e, k _ (.head _)⟩
theorem ans_neH {a : Ans} {v1 v2 : Value} (h1 : AnsH a v1 s.heap) (h2 : AnsH a v2 s.heap) (hu : A.units + 64 < cLine) (h : Q (.bool false) s) :
    wpAny (model prog w) A (compareOp .NotEq v1 v2) Q E s := by
  cases a with
  | num n =>
    obtain ⟨t1, rfl⟩ := h1
    obtain ⟨t2, rfl⟩ := h2
    refine PyProof.Rows.ne_int ?_
    rw [show (n != n) = false by simp]
    exact h
  | word x =>
    obtain ⟨t1, rfl⟩ := h1
    obtain ⟨t2, rfl⟩ := h2
    refine PyProof.Rows.ne_str ?_
    rw [show (Str.ofString x != Str.ofString x) = false by simp]
    exact h
  | pair a b =>
    obtain ⟨p1, x1, y1, n1, rfl, m1⟩ := h1
    obtain ⟨p2, x2, y2, n2, rfl, m2⟩ := h2
    refine ne_dataH (reads_tuple_at m1 rfl rfl (.cons (.int _ _) (.cons (.int _ _) .nil))) (reads_tuple_at m2 rfl rfl (.cons (.int _ _) (.cons (.int _ _) .nil))) rfl rfl hu ?_
    have e : PyData.eqv (.tuple [.int a, .int b]) (.tuple [.int a, .int b]) = true := by simp [PyData.eqv, PyData.eqvAll]
    rw [e]
    exact h
/-- an answer and the one entry that it may need -/
def AnsZ (a : Ans) (v : Value) (z : Addr × Obj) : Prop := AnsAt a v [] ∨ AnsAt a v [z]
theorem AnsZ.up {a : Ans} {v : Value} {z : Addr × Obj} {h : Heap} (x : AnsZ a v z) (k : h.get? z.1 = some z.2) : AnsH a v h := by
  rcases x with x | x
  · exact x.up fun _ h => nomatch h
  · exact x.up fun q hq => by rw [List.mem_singleton.mp hq]; exact k
theorem ansZ {a : Ans} {v : Value} {ex : Led} (x : AnsAt a v ex) (z : Addr × Obj) : ∃ y, AnsZ a v y ∧ (y = z ∨ y ∈ ex) := by
  cases a with
  | num n => exact ⟨z, .inl ⟨x.1, rfl⟩, .inl rfl⟩
  | word n => exact ⟨z, .inl ⟨x.1, rfl⟩, .inl rfl⟩
  | pair a b =>
    obtain ⟨tp, t1, t2, n, e, rfl⟩ := x
    exact ⟨_, .inr ⟨tp, t1, t2, n, e, rfl⟩, .inr (.head _)⟩
theorem told_store {oa ob oc od : Obj} {vb mn kx : Int} {tv tk tm tn : Tok} {Wa Ra : Addr} {vw vr : List Value} {ws rs : List Int} {nw nr : Nat} (C : Cx 4 w A hb L env [] p loose mean mg mb) (F : Fr hb L s.heap m) (ap : Apart [x, dx, D, O] rest)
    (N : News hb L s.heap ((x, oa) :: (dx, ob) :: (D, oc) :: (O, od) :: rest)) (mW : (Wa, PySem.W.listOf vw.toArray nw) ∈ rest) (mR : (Ra, PySem.W.listOf vr.toArray nr) ∈ rest)
    (iw : IntsAre vw ws) (ir : IntsAre vr rs) (hw : ws.length = 6) (hr : rs.length ≤ 6) (hk0 : 0 ≤ kx) (hk1 : kx < 6) (hm0 : 0 ≤ mn) (hm1 : mn ≤ 4) (hmr : mn ≤ rs.length) (rng : ∀ j ∈ rs, 0 ≤ j ∧ j < 6) (Hn : A.handled = none) (b0 : 0 ≤ vb) (b1 : vb < 12)
    (hQ : ∀ h' tk' tp v za zo tb, Fr hb L h' m → News hb L h' ((x, oa) :: (dx, ob) :: (D, oc) :: (O, od) :: (tp, { cls := .type "tuple", data := .seq #[.bool (tHit rs kx mn), v, .int (tMany vb kx mx mn rs) tb] }) :: (za, zo) :: rest) →
      Apart [x, dx, D, O] ((tp, { cls := .type "tuple", data := .seq #[.bool (tHit rs kx mn), v, .int (tMany vb kx mx mn rs) tb] }) :: (za, zo) :: rest) → Apart [x, dx, D, O] ((za, zo) :: rest) → AnsZ (tAns vb kx ws rs mn) v (za, zo) → Q (.ref tp) { s with heap := h', toks := tk' }) :
    wpAny (model prog w) A (call (.ref 913) [.int vb tv, .int kx tk, .ref Wa, .ref Ra, .int mx tm, .int mn tn]) Q E s := by
  obtain ⟨four', e4⟩ : ∃ four' : Led, four' = [(x, oa), (dx, ob), (D, oc), (O, od)] := ⟨_, rfl⟩
  have N0 : News hb L s.heap (four' ++ rest) := by rw [e4]; exact N
  have d4 : ∀ a ∈ [x, dx, D, O], ∃ o, (a, o) ∈ four' := fun a ha => by
    rw [e4]
    simp only [List.mem_cons, List.not_mem_nil, or_false] at ha
    rcases ha with rfl | rfl | rfl | rfl
    · exact ⟨_, .head _⟩
    · exact ⟨_, .tail _ (.head _)⟩
    · exact ⟨_, .tail _ (.tail _ (.head _))⟩
    · exact ⟨_, .tail _ (.tail _ (.tail _ (.head _)))⟩
  have off4 : ∀ a ∈ [x, dx, D, O], a ∉ [Wa, Ra] := fun a ha hm => by
    simp only [List.mem_cons (a := a) (b := Wa), List.mem_singleton] at hm
    rcases hm with rfl | rfl
    · exact ap _ mW ha
    · exact ap _ mR ha
  refine told_law (nw := nw) (nr := nr) (rest := (four' ++ rest).filter fun p => decide (p.1 ∉ [Wa, Ra])) (frs := []) C F (tl_nil fun q hq => by simpa using (List.mem_filter.mp hq).2) (nsub N0 fun q hq => ?_) iw ir hw hr hk0 hk1 hm0 hm1 hmr rng Hn b0 b1 fun h' tk' frs' tp v ex tb T' F' N' ha l1 l2 => ?_
  · rw [List.append_nil] at hq
    rcases List.mem_cons.mp hq with rfl | hq
    · exact List.mem_append_right _ mW
    · rcases List.mem_cons.mp hq with rfl | hq
      · exact List.mem_append_right _ mR
      · exact (List.mem_filter.mp hq).1
  · have e := T'.frs_nil
    subst e
    rw [List.append_nil] at N' l1
    simp only [List.append_nil] at l2
    have in4 : ∀ a ∈ [x, dx, D, O], ∃ o, (a, o) ∈ (four' ++ rest).filter fun p => decide (p.1 ∉ [Wa, Ra]) := fun a ha => by
      obtain ⟨o, ho⟩ := d4 a ha
      exact ⟨o, List.mem_filter.mpr ⟨List.mem_append_left _ ho, decide_eq_true (off4 a ha)⟩⟩
    have apx : Apart [x, dx, D, O] (ex ++ rest) := fun q hq hm => by
      rcases List.mem_append.mp hq with hq | hq
      · obtain ⟨o, ho⟩ := in4 _ hm
        exact Nat.lt_irrefl _ (allLt_mem (l2 q hq) (q.1, o) ho)
      · exact ap q hq hm
    have apt : ∀ o, Apart [x, dx, D, O] ((tp, o) :: (ex ++ rest)) := fun o q hq hm => by
      rcases List.mem_cons.mp hq with rfl | hq
      · obtain ⟨o, ho⟩ := in4 _ hm
        exact Nat.lt_irrefl _ (allLt_mem l1 _ ho)
      · exact apx q hq hm
    have back : ∀ q ∈ four' ++ rest, q ∈ (Wa, PySem.W.listOf vw.toArray nw) :: (Ra, PySem.W.listOf vr.toArray nr) :: ((four' ++ rest).filter fun p => decide (p.1 ∉ [Wa, Ra])) := fun q hq => by
      obtain ⟨a, o⟩ := q
      by_cases e1 : a = Wa
      · subst e1
        rw [nfn N0 hq (List.mem_append_right _ mW)]; exact .head _
      · by_cases e2 : a = Ra
        · subst e2
          rw [nfn N0 hq (List.mem_append_right _ mR)]; exact .tail _ (.head _)
        · exact .tail _ (.tail _ (List.mem_filter.mpr ⟨hq, by simp [e1, e2]⟩))
    obtain ⟨⟨za, zo⟩, hz, hzx⟩ := ansZ ha (Wa, PySem.W.listOf vw.toArray nw)
    have zin : (za, zo) ∈ ex ++ rest := by
      rcases hzx with e | e
      · rw [e]; exact List.mem_append_right _ mW
      · exact List.mem_append_left _ e
    have zs : ∀ q ∈ (za, zo) :: rest, q ∈ ex ++ rest := fun q hq => by
      rcases List.mem_cons.mp hq with rfl | hq
      · exact zin
      · exact List.mem_append_right _ hq
    refine hQ h' tk' tp v za zo tb F' (fun q hq => N' q ?_) (apart_sub (a := (tp, { cls := .type "tuple", data := .seq #[.bool (tHit rs kx mn), v, .int (tMany vb kx mx mn rs) tb] }) :: (ex ++ rest)) (apt _) fun q hq => ?_) (apart_sub apx zs) hz
    · have hq' : q = (tp, { cls := .type "tuple", data := .seq #[.bool (tHit rs kx mn), v, .int (tMany vb kx mx mn rs) tb] }) ∨ q ∈ four' ∨ q ∈ (za, zo) :: rest := by
        rw [e4]
        simp only [List.mem_cons, List.not_mem_nil, or_false] at hq ⊢
        rcases hq with h | h | h | h | h | h | h <;> simp [h]
      rcases hq' with rfl | hq' | hq'
      · exact .head _
      · exact .tail _ (List.mem_append_right _ (back q (List.mem_append_left _ hq')))
      · rcases List.mem_append.mp (zs q hq') with h | h
        · exact .tail _ (List.mem_append_left _ h)
        · exact .tail _ (List.mem_append_right _ (back q (List.mem_append_right _ h)))
    · rcases List.mem_cons.mp hq with rfl | hq
      · exact .head _
      · exact .tail _ (zs q hq)
theorem deed_store {v0 : Value} {z : Addr × Obj} {rest1 : Led} {vb mn : Int} {tv tw : Tok} {rs ws : List Int} {h1 h2 h3 h4 cs : Int} {t1 t2 t3 t4 tc tm : Tok} {oD oO : Obj} (C : Cx 26 w A hb L env [] p loose mean mg mb) (P0 : Apt x dx D O) (F : Fr hb L s.heap m) (ap : Apart [x, dx, D, O] rest1)
    (N : News hb L s.heap ((x, instObj 897 dx) :: (dx, dictOf (own h1 h2 h3 h4 t1 t2 t3 t4 D O cs mx tc tm) 4) :: (D, oD) :: (O, oO) :: rest1)) (hcs : cs = (kvs.length : Int)) (hD : oD.IsDictOf (PySem.intKind prog w) kvs) (hO : oO.IsDictOf (PySem.intKind prog w) ovs) (Hn : A.handled = none)
    (I : Inv mx rs ws mn kvs ovs fun j => vb = 7 → j ≠ k) (b0 : 0 ≤ vb) (b1 : vb < 12) (k0 : 0 ≤ k) (k1 : k < 6) (ha0 : AnsZ (tAns vb k ws rs mn) v0 z) (hs : z ∈ rest1) (hr : ∀ q ∈ rest, q ∈ rest1)
    (hQ : ∀ h' tk' v kvs' ovs' h1 h2 h3 h4 t1 t2 t3 t4 tc tm oD oO, Fr hb L h' m → News hb L h' ((x, instObj 897 dx) :: (dx, dictOf (own h1 h2 h3 h4 t1 t2 t3 t4 D O (kvs'.length : Int) mx tc tm) 4) :: (D, oD) :: (O, oO) :: rest) → Apart [x, dx, D, O] rest → oD.IsDictOf (PySem.intKind prog w) kvs' → oO.IsDictOf (PySem.intKind prog w) ovs' →
      AnsH (tAns vb k ws rs mn) v h' → AnsH (tAns vb k ws rs mn) v0 h' → Inv mx (aft rs k vb) ws (tMany vb k mx mn rs) kvs' ovs' (fun _ => True) → (kvs'.length : Int) = tMany vb k mx mn rs → kvs'.length ≤ 8 → 0 ≤ tMany vb k mx mn rs → tMany vb k mx mn rs ≤ ((aft rs k vb).length : Int) → (aft rs k vb).length ≤ 6 →
      ((aft rs k vb).drop (((aft rs k vb).length : Int) - tMany vb k mx mn rs).toNat).Perm (keys kvs') → Q v { s with heap := h', toks := tk' }) :
    wpAny (model prog w) A (call (.ref 906) [.ref x, .int vb tv, .int k t, .int (wth ws k) tw]) Q E s := by
  refine deed_top C P0 F ap N hcs hD hO Hn I b0 b1 k0 k1 fun h' tk' v ex2 kvs' ovs' h1 h2 h3 h4 t1 t2 t3 t4 tc tm oD oO F' N' hD' hO' ha I' => ?_
  have ln := I'.len
  have pm := I'.perm (nodup_of hD')
  rw [← I'.tail] at pm
  refine hQ h' tk' v kvs' ovs' h1 h2 h3 h4 t1 t2 t3 t4 tc tm oD oO F' (fun q hq => N' q ?_) (apart_sub ap hr) hD' hO' (ha.up fun q hq => (N' q ?_).1) (ha0.up (N' z ?_).1) I' ln.2.2.2.2 (by omega) ln.2.1 ln.1 ln.2.2.2.1 pm.symm
  · simp only [List.mem_cons, List.mem_append] at hq ⊢
    rcases hq with h | h | h | h | h
    · simp [h]
    · simp [h]
    · simp [h]
    · simp [h]
    · exact .inr (.inr (.inr (.inr (.inr (hr q h)))))
  · exact .tail _ (.tail _ (.tail _ (.tail _ (List.mem_append_left _ hq))))
  · exact .tail _ (.tail _ (.tail _ (.tail _ (List.mem_append_right _ hs))))
theorem ne_same {a b : Addr} {xs ys : List Value} {ns ms : List Int} (ha : s.heap.IsList a xs.toArray) (hb : s.heap.IsList b ys.toArray) (hi : IntsAre xs ns) (hj : IntsAre ys ms) (hu : A.units + 64 < cLine) (e : ns = ms) (h : Q (.bool false) s) :
    wpAny (model prog w) A (compareOp .NotEq (.ref a) (.ref b)) Q E s := ke_ne_ints ha hb hi hj hu (by rw [decide_eq_true e]; exact h)
theorem spot_of {S NN R AA c1 c2 c3 c4 a : Addr} (z : a ≠ S ∧ c4 < a ∧ c3 < a ∧ c2 < a ∧ c1 < a ∧ a < NN ∧ a ≠ R ∧ a ≠ AA) : Spot S NN R AA c1 c2 c3 c4 a := ⟨z.1, z.2.1, z.2.2.1, z.2.2.2.1, z.2.2.2.2.1, z.2.2.2.2.2.1, z.2.2.2.2.2.2.1, z.2.2.2.2.2.2.2⟩
theorem apart_turn {oa ob oc od : Obj} {AA I SL R WW NN S c1 c2 c3 c4 e it : Addr} {oe oit oA oI oSL oR oW oN oS o1 o2 o3 o4 : Obj} {os : Led} (rg : ∀ p ∈ [(x, oa), (dx, ob), (D, oc), (O, od)] ++ os, p.1 ≠ S ∧ c4 < p.1 ∧ c3 < p.1 ∧ c2 < p.1 ∧ c1 < p.1 ∧ p.1 < NN ∧ p.1 ≠ R ∧ p.1 ≠ AA) (qo : ∀ p ∈ [(x, oa), (dx, ob), (D, oc), (O, od)], ∀ z ∈ os, p.1 ≠ z.1)
    (W : Ords SL WW NN S c1 c2 c3 c4) (lI : SL < I) (lit : AA < it ∧ I < it ∧ SL < it ∧ R < it) (r9 : it < e) : Apart [x, dx, D, O] ((e, oe) :: (it, oit) :: Front AA I SL R WW NN S c1 c2 c3 c4 oA oI oSL oR oW oN oS o1 o2 o3 o4 os) := by
  have key : ∀ a ∈ [x, dx, D, O], ∃ o, (a, o) ∈ [(x, oa), (dx, ob), (D, oc), (O, od)] := fun a ha => by
    simp only [List.mem_cons, List.not_mem_nil, or_false] at ha
    rcases ha with rfl | rfl | rfl | rfl
    · exact ⟨_, .head _⟩
    · exact ⟨_, .tail _ (.head _)⟩
    · exact ⟨_, .tail _ (.tail _ (.head _))⟩
    · exact ⟨_, .tail _ (.tail _ (.tail _ (.head _)))⟩
  intro p hp ha
  obtain ⟨o, ho⟩ := key _ ha
  have z := rg _ (List.mem_append_left _ ho)
  dsimp only at z
  obtain ⟨z1, z2, z3, z4, z5, z6, z7, z8⟩ := z
  have lN : p.1 < SL := Nat.lt_trans z6 (Nat.lt_trans W.b2 W.b3)
  simp only [Front, List.mem_cons] at hp
  rcases hp with rfl | rfl | rfl | rfl | rfl | rfl | rfl | rfl | rfl | rfl | rfl | rfl | rfl | hp
  · exact Nat.lt_asymm lN (Nat.lt_trans lit.2.2.1 r9)
  · exact Nat.lt_asymm lN lit.2.2.1
  · exact z8 rfl
  · exact Nat.lt_asymm lN lI
  · exact Nat.lt_irrefl _ lN
  · exact z7 rfl
  · exact Nat.lt_asymm z6 W.b2
  · exact Nat.lt_irrefl _ z6
  · exact z1 rfl
  · exact Nat.lt_irrefl _ z2
  · exact Nat.lt_irrefl _ z3
  · exact Nat.lt_irrefl _ z4
  · exact Nat.lt_irrefl _ z5
  · exact qo _ ho _ hp rfl

theorem Inv.hitAt {mx mn k : Int} {rs ws : List Int} {kvs ovs : List (Int × Value)} {P : Int → Prop} (I : Inv mx rs ws mn kvs ovs P) : (valueAt kvs k).isSome = tHit rs k mn := by
  rw [I.hit]
  by_cases h : k ∈ keys ovs
  · obtain ⟨v, t, e, _⟩ := I.there k h
    rw [e, decide_eq_true h]; rfl
  · rw [I.lost k h, decide_eq_false h]; rfl
theorem ne_bool_same {b : Bool} (h : Q (.bool false) s) : wpAny (model prog w) A (compareOp .NotEq (.bool b) (.bool b)) Q E s := PyProof.Rows.ne_bool (by rw [show (b != b) = false by cases b <;> rfl]; exact h)
theorem drop1 {h : Heap} {a : Addr × Obj} {l : Led} (N : News hb L h (a :: l)) : News hb L h l := fun q hq => N q (.tail _ hq)
theorem lenBackK {n : Int} {u : Tok} (h0 : 0 ≤ n) (h1 : n < 2 ^ 63) (hq : Q (.int n s.toks) { s with toks := s.toks + 1 }) : PySem.W.LenBack Q (.int n u) s := ⟨⟨h0, h1⟩, hq⟩
theorem ne_int_same {a b : Int} {t u : Tok} (e : a = b) (h : Q (.bool false) s) : wpAny (model prog w) A (compareOp .NotEq (.int a t) (.int b u)) Q E s := by
  subst e
  exact PyProof.Rows.ne_int (by rw [show (a != a) = false by simp]; exact h)
theorem turn_back {h : Heap} {a b c d e1 e2 f1 f2 f3 f4 f5 f6 f7 f8 f9 f10 f11 : Addr × Obj} {os : Led} (N : News hb L h (a :: b :: c :: d :: e1 :: e2 :: f1 :: f2 :: f3 :: f4 :: f5 :: f6 :: f7 :: f8 :: f9 :: f10 :: f11 :: os)) : News hb L h (e1 :: e2 :: f1 :: f2 :: f3 :: f4 :: f5 :: f6 :: f7 :: f8 :: f9 :: f10 :: f11 :: ([a, b, c, d] ++ os)) := nsub N fun q hq => by
  simp only [List.mem_cons, List.cons_append, List.nil_append] at hq ⊢
  rcases hq with h | h | h | h | h | h | h | h | h | h | h | h | h | h | h | h | h | h <;> simp [h]
theorem front_sub {AA I SL R WW NN S c1 c2 c3 c4 : Addr} {oA oI oSL oR oW oN oS o1 o2 o3 o4 : Obj} {a b : Led} (h : ∀ z ∈ a, z ∈ b) : ∀ z ∈ Front AA I SL R WW NN S c1 c2 c3 c4 oA oI oSL oR oW oN oS o1 o2 o3 o4 a, z ∈ Front AA I SL R WW NN S c1 c2 c3 c4 oA oI oSL oR oW oN oS o1 o2 o3 o4 b := fun z hz => by
  simp only [Front, List.mem_cons] at hz ⊢
  rcases hz with h' | h' | h' | h' | h' | h' | h' | h' | h' | h' | h' | h' <;> first | (simp [h']; done) | simp [h z h']

theorem front_of {h : Heap} {a t b1 b2 b3 b4 b5 b6 b7 b8 b9 b10 : Addr × Obj} {tl : Led} (N : News hb L h (a :: t :: b1 :: b2 :: b3 :: b4 :: b5 :: b6 :: b7 :: b8 :: b9 :: b10 :: tl)) : News hb L h (a :: b1 :: b2 :: b3 :: b4 :: b5 :: b6 :: b7 :: b8 :: b9 :: b10 :: tl) := nsub N fun q hq => by
  rcases List.mem_cons.mp hq with rfl | hq
  · exact .head _
  · exact .tail _ (.tail _ hq)
section
theorem addr_mem {q q' : Led} (e : q'.map (·.1) = q.map (·.1)) {p : Addr × Obj} (h : p ∈ q') : ∃ z ∈ q, z.1 = p.1 := by
  have : p.1 ∈ q.map (·.1) := e ▸ List.mem_map_of_mem h
  obtain ⟨z, hz, e⟩ := List.mem_map.mp this
  exact ⟨z, hz, e⟩
def SpotP (S NN R AA c1 c2 c3 c4 a : Addr) : Prop := a ≠ S ∧ c4 < a ∧ c3 < a ∧ c2 < a ∧ c1 < a ∧ a < NN ∧ a ≠ R ∧ a ≠ AA
/-- where the stores' entries lie, and apart -/
structure Lies (S NN R AA c1 c2 c3 c4 : Addr) (q1 q2 q3 q4 : Led) : Prop where
  p : ∀ z ∈ q1 ++ (q2 ++ (q3 ++ q4)), SpotP S NN R AA c1 c2 c3 c4 z.1
  nd : ((q1 ++ (q2 ++ (q3 ++ q4))).map (·.1)).Nodup
theorem Lies.up {S NN R AA c1 c2 c3 c4 : Addr} {q1 q2 q3 q4 r1 r2 r3 r4 : Led} (l : Lies S NN R AA c1 c2 c3 c4 q1 q2 q3 q4) (e1 : r1.map (·.1) = q1.map (·.1)) (e2 : r2.map (·.1) = q2.map (·.1)) (e3 : r3.map (·.1) = q3.map (·.1)) (e4 : r4.map (·.1) = q4.map (·.1)) : Lies S NN R AA c1 c2 c3 c4 r1 r2 r3 r4 := by
  have e : (r1 ++ (r2 ++ (r3 ++ r4))).map (·.1) = (q1 ++ (q2 ++ (q3 ++ q4))).map (·.1) := by simp only [List.map_append, e1, e2, e3, e4]
  refine ⟨fun z hz => ?_, by rw [e]; exact l.nd⟩
  obtain ⟨z0, h0, e0⟩ := addr_mem e hz
  rw [← e0]; exact l.p z0 h0
theorem nd_perm {q1 q2 : Led} (h : ((q1 ++ q2).map (·.1)).Nodup) : ∀ p ∈ q1, ∀ z ∈ q2, p.1 ≠ z.1 := fun p hp z hz e => by
  rw [List.map_append, List.nodup_append] at h
  exact h.2.2 _ (List.mem_map_of_mem hp) _ (List.mem_map_of_mem hz) e
theorem Lies.a1 {S NN R AA c1 c2 c3 c4 : Addr} {q1 q2 q3 q4 : Led} (l : Lies S NN R AA c1 c2 c3 c4 q1 q2 q3 q4) : ∀ p ∈ q1, ∀ z ∈ q2 ++ (q3 ++ q4), p.1 ≠ z.1 := nd_perm l.nd
theorem Lies.sw {S NN R AA c1 c2 c3 c4 : Addr} {q1 q2 q3 q4 : Led} (l : Lies S NN R AA c1 c2 c3 c4 q1 q2 q3 q4) : Lies S NN R AA c1 c2 c3 c4 q2 q1 q3 q4 := by
  have pm : (q1 ++ (q2 ++ (q3 ++ q4))).Perm (q2 ++ (q1 ++ (q3 ++ q4))) := by
    refine .trans (.of_eq (List.append_assoc ..).symm) (.trans (List.perm_append_comm.append_right _) (.of_eq (List.append_assoc ..)))
  exact ⟨fun z hz => l.p z (pm.mem_iff.mpr hz), (pm.map _).nodup_iff.mp l.nd⟩
theorem Lies.rot {S NN R AA c1 c2 c3 c4 : Addr} {q1 q2 q3 q4 : Led} (l : Lies S NN R AA c1 c2 c3 c4 q1 q2 q3 q4) : Lies S NN R AA c1 c2 c3 c4 q2 q3 q4 q1 := by
  have pm : (q1 ++ (q2 ++ (q3 ++ q4))).Perm (q2 ++ (q3 ++ (q4 ++ q1))) := by
    refine List.perm_append_comm.trans ?_
    simp only [List.append_assoc]
    exact .refl _
  exact ⟨fun z hz => l.p z (pm.mem_iff.mpr hz), (pm.map _).nodup_iff.mp l.nd⟩
theorem Lies.rev {S NN R AA c1 c2 c3 c4 : Addr} {q1 q2 q3 q4 : Led} (l : Lies S NN R AA c1 c2 c3 c4 q1 q2 q3 q4) : Lies S NN R AA c1 c2 c3 c4 q4 q3 q2 q1 := by
  have pm : (q1 ++ (q2 ++ (q3 ++ q4))).Perm (q4 ++ (q3 ++ (q2 ++ q1))) := by
    refine List.perm_append_comm.trans ?_
    refine (List.perm_append_comm.append_right _).trans ?_
    refine ((List.perm_append_comm.append_right _).append_right _).trans ?_
    simp only [List.append_assoc]
    exact .refl _
  exact ⟨fun z hz => l.p z (pm.mem_iff.mpr hz), (pm.map _).nodup_iff.mp l.nd⟩
/-- what stays as it is all through the inner loop -/
structure InFix (AA I SL R WW NN S c1 c2 c3 c4 : Addr) (va vr vw : List Value) (rs ws : List Int) (vb kx : Int) (tv tk : Tok) (o1 o2 o3 : Obj) : Prop where
  ia : IntsAre va (aft rs kx vb)
  ir : IntsAre vr rs
  iw : IntsAre vw ws
  hw : ws.length = 6
  d1 : o1.data = .cell (some (.ref WW))
  d2 : o2.data = .cell (some (.int vb tv))
  d3 : o3.data = .cell (some (.int kx tk))
  b0 : 0 ≤ vb
  b1 : vb < 12
  k0 : 0 ≤ kx
  k1 : kx < 6
  W : Ords SL WW NN S c1 c2 c3 c4
  r1 : FreeOf R SL WW NN S c1 c2 c3 c4
  r3 : SL < I
  r5 : FreeOf AA SL WW NN S c1 c2 c3 c4
def innerFor : List Stmt → Option (Expr × List Stmt)
  | [] => none
  | .For t _ b _ _ :: _ => some (t, b)
  | _ :: r => innerFor r
theorem use_inner {body b : List Stmt} {t : Expr} {Q : Flow → Shared → Prop} {a1 a2 a3 a4 a5 a6 : Addr × Obj} {c1 c2 c3 c4 : Addr} {o1 o2 o3 o4 : Obj} {tl : Led} (_F : Fr hb env.locals s.heap m) (_N : News hb env.locals s.heap (a1 :: a2 :: a3 :: a4 :: a5 :: a6 :: (c4, o4) :: (c3, o3) :: (c2, o2) :: (c1, o1) :: tl)) (_e : innerFor body = some (t, b))
    (tn : TurnOK prog w A hb env t b c1 c2 c3 c4) (k : TurnOK prog w A hb env t b c1 c2 c3 c4 → wpAny (model prog w) A (execs body env) Q E s) : wpAny (model prog w) A (execs body env) Q E s := k tn
theorem Store.weak {rs ws : List Int} {P P' : Int → Prop} {mx mn : Int} {x : Addr} {q : Led} (h : Store prog w rs ws P mx mn x q) (i : ∀ j, P' j → P j) : Store prog w rs ws P' mx mn x q := by
  obtain ⟨dx, D, O, kvs, ovs, a, b, c⟩ := h
  exact ⟨dx, D, O, kvs, ovs, a, b, { c with there := fun j hj => by obtain ⟨v, t, e, g⟩ := c.there j hj; exact ⟨v, t, e, fun p => g (i j p)⟩ }⟩
theorem inner_step {target : Expr} {body : List Stmt} {Q : Flow → Shared → Prop} {r : List Itm} {c1 c2 c3 c4 AA I SL R WW NN S it x : Addr} {oI oSL o1 o2 o3 o4 : Obj} {b4 : Option Value} {va vr vw vn : List Value} {na nr nw nn : Nat} {rs ws ns : List Int} {vb kx mn : Int} {tv tk : Tok} {q os nwl : Led} {sv : List Value} {f : Tok → Value} {mxi : Int}
    (tn : TurnOK prog w A hb env target body c1 c2 c3 c4) (X : InFix AA I SL R WW NN S c1 c2 c3 c4 va vr vw rs ws vb kx tv tk o1 o2 o3) (i : Nat) (hi : i < 4) (hns : ns.length = 4) (hni : ns[i]? = some mn) (hf : f = fun t => .int (i : Int) t) (hmx : mxi = (i : Int) + 1) (Kn : Knows m S NN R AA)
    (inn : IntsAre vn ns) (d4 : o4.data = .cell b4) (St : Store prog w rs ws (fun j => vb = 7 → j ≠ kx) mxi mn x q) (rg : ∀ z ∈ q ++ os, SpotP S NN R AA c1 c2 c3 c4 z.1) (dis : ∀ p ∈ q, ∀ z ∈ os, p.1 ≠ z.1)
    (sub : ∀ z ∈ Front AA I SL R WW NN S c1 c2 c3 c4 (PySem.W.listOf (List.toArray va) na) oI oSL (PySem.W.listOf (List.toArray vr) nr) (PySem.W.listOf (List.toArray vw) nw) (PySem.W.listOf (List.toArray vn) nn) (LCg.lst sv) o1 o2 o3 o4 (q ++ os), z ∈ nwl)
    (lt : ∀ z ∈ Front AA I SL R WW NN S c1 c2 c3 c4 (PySem.W.listOf (List.toArray va) na) oI oSL (PySem.W.listOf (List.toArray vr) nr) (PySem.W.listOf (List.toArray vw) nw) (PySem.W.listOf (List.toArray vn) nn) (LCg.lst sv) o1 o2 o3 o4 (q ++ os), z.1 < it)
    (next : ∀ m' vn' nn' o4' b4' q', Knows m' S NN R AA → IntsAre vn' (ns.set i (tMany vb kx mxi mn rs)) → o4'.data = .cell b4' → q'.map (·.1) = q.map (·.1) → Store prog w (aft rs kx vb) ws (fun _ => True) mxi (tMany vb kx mxi mn rs) x q' →
      (∀ z ∈ Front AA I SL R WW NN S c1 c2 c3 c4 (PySem.W.listOf (List.toArray va) na) oI oSL (PySem.W.listOf (List.toArray vr) nr) (PySem.W.listOf (List.toArray vw) nw) (PySem.W.listOf (List.toArray vn') nn') (LCg.lst sv) o1 o2 o3 o4' (q' ++ os), z.1 < it) →
      ItemsRest prog w A E hb env target body Q s [(it + 1, "enumerate"), (it, "list_iterator")] [(S, LCg.lst sv)] r m' (Front AA I SL R WW NN S c1 c2 c3 c4 (PySem.W.listOf (List.toArray va) na) oI oSL (PySem.W.listOf (List.toArray vr) nr) (PySem.W.listOf (List.toArray vw) nw) (PySem.W.listOf (List.toArray vn') nn') (LCg.lst sv) o1 o2 o3 o4' (q' ++ os))) :
    ItemsRest prog w A E hb env target body Q s [(it + 1, "enumerate"), (it, "list_iterator")] [(S, LCg.lst sv)] (.pair f (.ref x) :: r) m nwl := by
  subst hf
  subst hmx
  refine ItemsRest.pair fun T t h tk' hT F => AllObj.cons fun oe _ => AllObj.cons fun oit _ => AllObj.nil fun N => ?_
  have lAA := lt _ (.head _)
  refine wpAny_mono (tn { s with heap := h, toks := tk' } E m T (it + 1) it oe oit t i x q os mn AA I SL R WW NN S oI oSL (LCg.lst sv) o1 o2 o3 o4 b4 va vr vw vn na nr nw nn rs ws ns vb kx tv tk hi hns hni hT F Kn (nsub N fun z hz => ?_)
    X.ia X.ir X.iw inn X.hw X.d1 X.d2 X.d3 d4 St X.b0 X.b1 X.k0 X.k1 X.W X.r1 X.r3 X.r5 ⟨lAA, lt _ (.tail _ (.head _)), lt _ (.tail _ (.tail _ (.head _))), lt _ (.tail _ (.tail _ (.tail _ (.head _))))⟩ (Nat.lt_succ_self it) rg dis) (fun _ s₂ h2 => wpAny_mono h2 (fun fl s₃ h3 => ?_) fun _ _ e => e) fun _ _ e => e
  · rcases List.mem_cons.mp hz with rfl | hz
    · exact .head _
    · rcases List.mem_cons.mp hz with rfl | hz
      · exact .tail _ (.head _)
      · exact .tail _ (.tail _ (sub z hz))
  · obtain ⟨⟨rfl, h', tk2, m', q', vn', nn', o4', b4', rfl, F', Kn', N', inn', d4', eq', St'⟩⟩ := h3
    have lt' : ∀ z ∈ Front AA I SL R WW NN S c1 c2 c3 c4 (PySem.W.listOf (List.toArray va) na) oI oSL (PySem.W.listOf (List.toArray vr) nr) (PySem.W.listOf (List.toArray vw) nw) (PySem.W.listOf (List.toArray vn') nn') (LCg.lst sv) o1 o2 o3 o4' (q' ++ os), z.1 < it := fun z hz => by
      have e : z.1 ∈ (Front AA I SL R WW NN S c1 c2 c3 c4 (PySem.W.listOf (List.toArray va) na) oI oSL (PySem.W.listOf (List.toArray vr) nr) (PySem.W.listOf (List.toArray vw) nw) (PySem.W.listOf (List.toArray vn) nn) (LCg.lst sv) o1 o2 o3 o4 (q ++ os)).map (·.1) := by
        have := List.mem_map_of_mem (f := (·.1)) hz
        simp only [Front, List.map_cons, List.map_append, eq'] at this ⊢
        exact this
      obtain ⟨y, hy, e⟩ := List.mem_map.mp e
      rw [← e]; exact lt y hy
    refine ⟨h', tk2, m', _, rfl, F', N', fun p hp z hz e => ?_, ⟨.tail _ (.tail _ (.tail _ (.tail _ (.tail _ (.tail _ (.head _)))))), trivial⟩, next m' vn' nn' o4' b4' q' Kn' inn' d4' eq' St' lt'⟩
    have l := lt' p hp
    rcases List.mem_cons.mp hz with rfl | hz
    · exact Nat.lt_irrefl it (Nat.lt_trans (Nat.lt_succ_self it) (by rw [e] at l; exact l))
    · rw [List.mem_singleton.mp hz] at e
      rw [e] at l
      exact Nat.lt_irrefl _ l
theorem inner_loop {elts : List Expr} {kk : Nat} {pos : Pos} {body : List Stmt} {Q : Flow → Shared → Prop} {c1 c2 c3 c4 AA I SL R WW NN S x1 x2 x3 x4 : Addr} {oI oSL o1 o2 o3 o4 : Obj} {b4 : Option Value} {va vr vw vn : List Value} {na nr nw nn : Nat} {rs ws : List Int} {vb kx m1 m2 m3 m4 : Int} {tv tk : Tok} {q1 q2 q3 q4 : Led}
    (tn : TurnOK prog w A hb env (.Tuple elts kk pos) body c1 c2 c3 c4) (X : InFix AA I SL R WW NN S c1 c2 c3 c4 va vr vw rs ws vb kx tv tk o1 o2 o3) (hh : A.handled = none) (Kn : Knows m S NN R AA) (F : Fr hb env.locals s.heap m)
    (N : News hb env.locals s.heap (Front AA I SL R WW NN S c1 c2 c3 c4 (PySem.W.listOf (List.toArray va) na) oI oSL (PySem.W.listOf (List.toArray vr) nr) (PySem.W.listOf (List.toArray vw) nw) (PySem.W.listOf (List.toArray vn) nn) (LCg.lst [.ref x1, .ref x2, .ref x3, .ref x4]) o1 o2 o3 o4 (q1 ++ (q2 ++ (q3 ++ q4)))))
    (inn : IntsAre vn [m1, m2, m3, m4]) (d4 : o4.data = .cell b4) (s1 : Store prog w rs ws (fun j => vb = 7 → j ≠ kx) 1 m1 x1 q1) (s2 : Store prog w rs ws (fun j => vb = 7 → j ≠ kx) 2 m2 x2 q2) (s3 : Store prog w rs ws (fun j => vb = 7 → j ≠ kx) 3 m3 x3 q3) (s4 : Store prog w rs ws (fun j => vb = 7 → j ≠ kx) 4 m4 x4 q4)
    (ly : Lies S NN R AA c1 c2 c3 c4 q1 q2 q3 q4)
    (done : ∀ h' tk' m' vn' nn' o4' b4' p1 p2 p3 p4, Fr hb env.locals h' m' → Knows m' S NN R AA →
      News hb env.locals h' (Front AA I SL R WW NN S c1 c2 c3 c4 (PySem.W.listOf (List.toArray va) na) oI oSL (PySem.W.listOf (List.toArray vr) nr) (PySem.W.listOf (List.toArray vw) nw) (PySem.W.listOf (List.toArray vn') nn') (LCg.lst [.ref x1, .ref x2, .ref x3, .ref x4]) o1 o2 o3 o4' (p1 ++ (p2 ++ (p3 ++ p4)))) →
      IntsAre vn' [tMany vb kx 1 m1 rs, tMany vb kx 2 m2 rs, tMany vb kx 3 m3 rs, tMany vb kx 4 m4 rs] → o4'.data = .cell b4' → Store prog w (aft rs kx vb) ws (fun _ => True) 1 (tMany vb kx 1 m1 rs) x1 p1 → Store prog w (aft rs kx vb) ws (fun _ => True) 2 (tMany vb kx 2 m2 rs) x2 p2 → Store prog w (aft rs kx vb) ws (fun _ => True) 3 (tMany vb kx 3 m3 rs) x3 p3 → Store prog w (aft rs kx vb) ws (fun _ => True) 4 (tMany vb kx 4 m4 rs) x4 p4 →
      Lies S NN R AA c1 c2 c3 c4 p1 p2 p3 p4 → Q .next { s with heap := h', toks := tk' }) :
    wpAny (model prog w) A (call (.type "enumerate") [.ref S]) (fun xv s₁ => wpAny (model prog w) A (pyIter xv) (fun it s₂ => TurnsAt prog w A hb env (.Tuple elts kk pos) body Q E it s₂) E s₁) E s := by
  refine ktu_enum (vs := [.ref x1, .ref x2, .ref x3, .ref x4]) (n := _) hh F N (.tail _ (.tail _ (.tail _ (.tail _ (.tail _ (.tail _ (.head _))))))) rfl rfl rfl fun it lt => ?_
  refine inner_step (mxi := 1) (q := q1) (os := q2 ++ (q3 ++ q4)) tn X 0 (by decide) rfl rfl rfl rfl Kn inn d4 s1 ly.p ly.a1 (fun _ h => h) lt fun m' vn' nn' o4' b4' p1 Kn inn d4 e1 t1 lt => ?_
  have ly1 := (ly.up e1 rfl rfl rfl).sw
  have sb1 : ∀ z ∈ p1 ++ (q2 ++ (q3 ++ q4)), z ∈ q2 ++ (p1 ++ (q3 ++ q4)) := fun z => by simp only [List.mem_append]; intro h; rcases h with h | h | h | h <;> simp [h]
  have sb1' : ∀ z ∈ q2 ++ (p1 ++ (q3 ++ q4)), z ∈ p1 ++ (q2 ++ (q3 ++ q4)) := fun z => by simp only [List.mem_append]; intro h; rcases h with h | h | h | h <;> simp [h]
  refine inner_step (mxi := 2) (q := q2) (os := p1 ++ (q3 ++ q4)) tn X 1 (by decide) rfl rfl rfl rfl Kn inn d4 s2 ly1.p ly1.a1 (front_sub sb1') (fun z hz => lt z (front_sub sb1' z hz)) fun m' vn' nn' o4' b4' p2 Kn inn d4 e2 t2 lt => ?_
  have ly2 := (ly1.up e2 rfl rfl rfl).rot.rot
  have sb2' : ∀ z ∈ q3 ++ (q4 ++ (p2 ++ p1)), z ∈ p2 ++ (p1 ++ (q3 ++ q4)) := fun z => by simp only [List.mem_append]; intro h; rcases h with h | h | h | h <;> simp [h]
  refine inner_step (mxi := 3) (q := q3) (os := q4 ++ (p2 ++ p1)) tn X 2 (by decide) rfl rfl rfl rfl Kn inn d4 s3 ly2.p ly2.a1 (front_sub sb2') (fun z hz => lt z (front_sub sb2' z hz)) fun m' vn' nn' o4' b4' p3 Kn inn d4 e3 t3 lt => ?_
  have ly3 := (ly2.up e3 rfl rfl rfl).sw
  have sb3' : ∀ z ∈ q4 ++ (p3 ++ (p2 ++ p1)), z ∈ p3 ++ (q4 ++ (p2 ++ p1)) := fun z => by simp only [List.mem_append]; intro h; rcases h with h | h | h | h <;> simp [h]
  refine inner_step (mxi := 4) (q := q4) (os := p3 ++ (p2 ++ p1)) tn X 3 (by decide) rfl rfl rfl rfl Kn inn d4 s4 ly3.p ly3.a1 (front_sub sb3') (fun z hz => lt z (front_sub sb3' z hz)) fun m' vn' nn' o4' b4' p4 Kn inn d4 e4 t4 lt => ?_
  have ly4 := ly3.up e4 rfl rfl rfl
  have ly5 : Lies S NN R AA c1 c2 c3 c4 p1 p2 p3 p4 := ly4.rev
  refine ItemsRest.zero fun h' tk F' N' => ?_
  refine done h' tk m' vn' nn' o4' b4' p1 p2 p3 p4 F' Kn (nsub N' fun z hz => front_sub (fun z => ?_) z hz) inn d4 t1 t2 t3 t4 ly5
  simp only [List.mem_append]; intro h; rcases h with h | h | h | h <;> simp [h]
theorem ia_no {ys : List Value} {rs : List Int} {k vb : Int} (h : IntsAre ys (rs.filter fun j => decide (j ≠ k ∨ 9 < vb))) (b : ¬ vb < 8) : IntsAre ys (aft rs k vb) := by
  unfold aft
  by_cases c : 9 < vb
  · rw [if_pos c]
    have e : (rs.filter fun j => decide (j ≠ k ∨ 9 < vb)) = rs := List.filter_eq_self.mpr fun j _ => decide_eq_true (.inr c)
    rw [e] at h; exact h
  · rw [if_neg c, if_neg b]
    have e : (rs.filter fun j => decide (j ≠ k ∨ 9 < vb)) = del rs k := List.filter_congr fun j _ => by simp only [c, or_false]
    rw [e] at h; exact h
theorem ia_app {ys : List Value} {rs : List Int} {k vb : Int} {t : Tok} (h : IntsAre ys (rs.filter fun j => decide (j ≠ k ∨ 9 < vb))) (b : vb < 8) : IntsAre (ys.toArray.toList.concat (.int k t)) (aft rs k vb) := by
  unfold aft
  have c : ¬ 9 < vb := by omega
  rw [if_neg c, if_pos b, List.concat_eq_append]
  have e : (rs.filter fun j => decide (j ≠ k ∨ 9 < vb)) = del rs k := List.filter_congr fun j _ => by simp only [c, or_false]
  rw [e] at h
  exact IntsAre.append h (.cons k t .nil)
theorem free_off {T AA I SL R WW NN S c1 c2 c3 c4 : Addr} {qs : Led} (o : T ≠ AA ∧ I ≠ AA ∧ SL ≠ AA ∧ R ≠ AA ∧ WW ≠ AA ∧ NN ≠ AA ∧ S ≠ AA ∧ c4 ≠ AA ∧ c3 ≠ AA ∧ c2 ≠ AA ∧ c1 ≠ AA ∧ LCg.Off1 AA qs) : FreeOf AA SL WW NN S c1 c2 c3 c4 := by
  obtain ⟨_, _, a, _, b, c, d, e4, e3, e2, e1, _⟩ := o
  exact ⟨a.symm, b.symm, c.symm, d.symm, e1.symm, e2.symm, e3.symm, e4.symm⟩
theorem Store.turned {rs ws : List Int} {mx mn vb k n : Int} {x : Addr} {q : Led} (h : Store prog w rs ws (fun _ => True) mx mn x q) (k0 : 0 ≤ k) (v : vb = 7) : Store prog w rs (ws.set k.toNat n) (fun j => vb = 7 → j ≠ k) mx mn x q := by
  obtain ⟨dx, D, O, kvs, ovs, a, b, c⟩ := h
  refine ⟨dx, D, O, kvs, ovs, a, b, { c with there := fun j hj => ?_ }⟩
  obtain ⟨v', t, e, g⟩ := c.there j hj
  refine ⟨v', t, e, fun p => ?_⟩
  have p := p v
  rw [g trivial]
  obtain ⟨a0, e0⟩ := c.old
  have r := (c.rng j (by rw [e0]; exact List.mem_append_right _ hj)).1
  have ne : k.toNat ≠ j.toNat := by omega
  unfold wth
  rw [List.getD_eq_getElem?_getD, List.getD_eq_getElem?_getD, List.getElem?_set_ne ne]
theorem turn_done {c1 c2 c3 c4 AA I SL R WW NN S x1 x2 x3 x4 : Addr} {oI oSL o1 o2 o3 o4 : Obj} {b2 b3 b4 : Option Value} {va vr vw vn : List Value} {na nr nw nn tk' : Nat} {rs ws : List Int} {m1 m2 m3 m4 : Int} {q1 q2 q3 q4 : Led} {h' : Heap} {Q : Flow → Shared → Prop}
    (W : Ords SL WW NN S c1 c2 c3 c4) (lI : SL < I) (aI : I ≠ AA) (fa : FreeOf AA SL WW NN S c1 c2 c3 c4) (ly : Lies S NN R AA c1 c2 c3 c4 q1 q2 q3 q4) (hs : m "stores" = some (.ref S)) (hn : m "numbers" = some (.ref NN)) (hr : m "recent" = some (.ref AA)) (F : Fr hb L h' m)
    (N : News hb L h' (Front AA I SL R WW NN S c1 c2 c3 c4 (PySem.W.listOf (List.toArray va) na) oI oSL (PySem.W.listOf (List.toArray vr) nr) (PySem.W.listOf (List.toArray vw) nw) (PySem.W.listOf (List.toArray vn) nn) (LCg.lst [.ref x1, .ref x2, .ref x3, .ref x4]) o1 o2 o3 o4 (q1 ++ (q2 ++ (q3 ++ q4)))))
    (ia : IntsAre va rs) (iw : IntsAre vw ws) (inn : IntsAre vn [m1, m2, m3, m4]) (hw : ws.length = 6) (d1 : o1.data = .cell (some (.ref WW))) (d2 : o2.data = .cell b2) (d3 : o3.data = .cell b3) (d4 : o4.data = .cell b4)
    (s1 : Store prog w rs ws (fun _ => True) 1 m1 x1 q1) (s2 : Store prog w rs ws (fun _ => True) 2 m2 x2 q2) (s3 : Store prog w rs ws (fun _ => True) 3 m3 x3 q3) (s4 : Store prog w rs ws (fun _ => True) 4 m4 x4 q4) :
    TurnEnd hb L Q I oI (fun m' nx => LawJ prog w SL WW NN S c1 c2 c3 c4 x1 x2 x3 x4 oSL m' nx) s .next { s with heap := h', toks := tk' } := by
  have lq : ∀ z ∈ q1 ++ (q2 ++ (q3 ++ q4)), z.1 < NN := fun z hz => (ly.p z hz).2.2.2.2.2.1
  have lN : NN < I := Nat.lt_trans W.b2 (Nat.lt_trans W.b3 lI)
  refine ⟨⟨h', tk', m, (SL, oSL) :: (AA, PySem.W.listOf (List.toArray va) na) :: (WW, PySem.W.listOf (List.toArray vw) nw) :: (NN, PySem.W.listOf (List.toArray vn) nn) :: (S, LCg.lst [.ref x1, .ref x2, .ref x3, .ref x4]) :: (c4, o4) :: (c3, o3) :: (c2, o2) :: (c1, o1) :: (q1 ++ (q2 ++ (q3 ++ q4))), rfl, F, nsub N fun q hq => ?_, fun p hp => ?_,
    ⟨⟨AA, va, na, rs, vw, nw, ws, vn, nn, m1, m2, m3, m4, o1, o2, o3, o4, b2, b3, b4, q1, q2, q3, q4, rfl, ia, iw, inn, hw, d1, d2, d3, d4, s1, s2, s3, s4, ly.nd, fun z hz => ?_, fa, hr⟩, hs, hn⟩⟩⟩
  · simp only [Front, List.mem_cons] at hq ⊢
    rcases hq with h | h | h | h | h | h | h | h | h | h | h <;> simp [h]
  · simp only [List.mem_cons] at hp
    have W4 := W.a4
    have W3 := Nat.lt_trans W.a3 W.a4
    have W2 := Nat.lt_trans W.a2 W3
    have W1 := Nat.lt_trans W.a1 W2
    rcases hp with rfl | rfl | rfl | rfl | rfl | rfl | rfl | rfl | rfl | hp
    · exact Nat.ne_of_lt lI
    · exact aI.symm
    · exact Nat.ne_of_lt (Nat.lt_trans W.b3 lI)
    · exact Nat.ne_of_lt lN
    · exact Nat.ne_of_lt (Nat.lt_trans W.b1 lN)
    · exact Nat.ne_of_lt (Nat.lt_trans W4 lN)
    · exact Nat.ne_of_lt (Nat.lt_trans W3 lN)
    · exact Nat.ne_of_lt (Nat.lt_trans W2 lN)
    · exact Nat.ne_of_lt (Nat.lt_trans W1 lN)
    · exact Nat.ne_of_lt (Nat.lt_trans (lq p hp) lN)
  · obtain ⟨z1, z2, z3, z4, z5, z6, z7, z8⟩ := ly.p z hz
    exact ⟨z1, z2, z3, z4, z5, z6, z8⟩
end
section
structure KnowsL (m : Str → Option Value) (S NN R : Addr) : Prop where
  a : m "stores" = some (.ref S)
  b : m "numbers" = some (.ref NN)
  c : m "recent" = some (.ref R)
/-- the ledger in the last loop, but for the stores' own entries -/
abbrev Back (SL R WW NN S c1 c2 c3 c4 : Addr) (oSL oR oW oN oS o1 o2 o3 o4 : Obj) (tl : Led) : Led :=
  (SL, oSL) :: (R, oR) :: (WW, oW) :: (NN, oN) :: (S, oS) :: (c4, o4) :: (c3, o3) :: (c2, o2) :: (c1, o1) :: tl
def SpotL (S NN R c1 c2 c3 c4 a : Addr) : Prop := a ≠ S ∧ c4 < a ∧ c3 < a ∧ c2 < a ∧ c1 < a ∧ a < NN ∧ a ≠ R
/-- the last loop's turn: one store -/
def LastOK (prog : Program) (w : World) (A : Around) (hb : Heap) (env : Env) (target : Expr) (body : List Stmt) (c1 c2 c3 c4 : Addr) : Prop :=
  ∀ (s : Shared) (E : Value → Shared → Prop) (m : Str → Option Value) (T e it : Addr) (oe oit : Obj) (t : Tok) (i : Nat) (x : Addr) (q os : Led) (mn : Int) (SL R WW NN S : Addr) (oSL oS o1 o2 o3 o4 : Obj) (b4 : Option Value) (vr vw vn : List Value) (nr nw nn : Nat) (rs ws ns : List Int),
    i < 4 → ns.length = 4 → ns[i]? = some mn → IsTup s.heap T #[.int (i : Int) t, .ref x] → Fr hb env.locals s.heap m → KnowsL m S NN R →
    News hb env.locals s.heap ((e, oe) :: (it, oit) :: Back SL R WW NN S c1 c2 c3 c4 oSL (PySem.W.listOf (List.toArray vr) nr) (PySem.W.listOf (List.toArray vw) nw) (PySem.W.listOf (List.toArray vn) nn) oS o1 o2 o3 o4 (q ++ os)) →
    IntsAre vr rs → IntsAre vw ws → IntsAre vn ns → ws.length = 6 → o1.data = .cell (some (.ref WW)) → o4.data = .cell b4 →
    Store prog w rs ws (fun _ => True) ((i : Int) + 1) mn x q → Ords SL WW NN S c1 c2 c3 c4 → FreeOf R SL WW NN S c1 c2 c3 c4 → (SL < it ∧ R < it) → it < e →
    (∀ p ∈ q ++ os, SpotL S NN R c1 c2 c3 c4 p.1) → (∀ p ∈ q, ∀ z ∈ os, p.1 ≠ z.1) →
    wpAny (model prog w) A (assign target env (.ref T)) (fun _ s₂ => wpAny (model prog w) A (execs body env) (fun f s₃ => Pause (f = .next ∧ ∃ h' tk' m' o4' b4', s₃ = { s with heap := h', toks := tk' } ∧ Fr hb env.locals h' m' ∧ KnowsL m' S NN R ∧
      News hb env.locals h' ((e, oe) :: (it, oit) :: Back SL R WW NN S c1 c2 c3 c4 oSL (PySem.W.listOf (List.toArray vr) nr) (PySem.W.listOf (List.toArray vw) nw) (PySem.W.listOf (List.toArray vn) nn) oS o1 o2 o3 o4' os) ∧ o4'.data = .cell b4')) E s₂) E s
structure LastFix (SL R WW NN S c1 c2 c3 c4 : Addr) (vr vw vn : List Value) (rs ws ns : List Int) (o1 : Obj) : Prop where
  ir : IntsAre vr rs
  iw : IntsAre vw ws
  inn : IntsAre vn ns
  hw : ws.length = 6
  d1 : o1.data = .cell (some (.ref WW))
  W : Ords SL WW NN S c1 c2 c3 c4
  r1 : FreeOf R SL WW NN S c1 c2 c3 c4
theorem last_step {target : Expr} {body : List Stmt} {Q : Flow → Shared → Prop} {r : List Itm} {c1 c2 c3 c4 SL R WW NN S it x : Addr} {oSL o1 o2 o3 o4 : Obj} {b4 : Option Value} {vr vw vn : List Value} {nr nw nn : Nat} {rs ws ns : List Int} {mn : Int} {q os : Led} {sv : List Value} {f : Tok → Value} {mxi : Int}
    (tn : LastOK prog w A hb env target body c1 c2 c3 c4) (X : LastFix SL R WW NN S c1 c2 c3 c4 vr vw vn rs ws ns o1) (i : Nat) (hi : i < 4) (hns : ns.length = 4) (hni : ns[i]? = some mn) (hf : f = fun t => .int (i : Int) t) (hmx : mxi = (i : Int) + 1) (Kn : KnowsL m S NN R)
    (d4 : o4.data = .cell b4) (St : Store prog w rs ws (fun _ => True) mxi mn x q) (rg : ∀ z ∈ q ++ os, SpotL S NN R c1 c2 c3 c4 z.1) (dis : ∀ p ∈ q, ∀ z ∈ os, p.1 ≠ z.1)
    (lt : ∀ z ∈ Back SL R WW NN S c1 c2 c3 c4 oSL (PySem.W.listOf (List.toArray vr) nr) (PySem.W.listOf (List.toArray vw) nw) (PySem.W.listOf (List.toArray vn) nn) (LCg.lst sv) o1 o2 o3 o4 (q ++ os), z.1 < it)
    (next : ∀ m' o4' b4', KnowsL m' S NN R → o4'.data = .cell b4' → (∀ z ∈ Back SL R WW NN S c1 c2 c3 c4 oSL (PySem.W.listOf (List.toArray vr) nr) (PySem.W.listOf (List.toArray vw) nw) (PySem.W.listOf (List.toArray vn) nn) (LCg.lst sv) o1 o2 o3 o4' os, z.1 < it) →
      ItemsRest prog w A E hb env target body Q s [(it + 1, "enumerate"), (it, "list_iterator")] [(S, LCg.lst sv)] r m' (Back SL R WW NN S c1 c2 c3 c4 oSL (PySem.W.listOf (List.toArray vr) nr) (PySem.W.listOf (List.toArray vw) nw) (PySem.W.listOf (List.toArray vn) nn) (LCg.lst sv) o1 o2 o3 o4' os)) :
    ItemsRest prog w A E hb env target body Q s [(it + 1, "enumerate"), (it, "list_iterator")] [(S, LCg.lst sv)] (.pair f (.ref x) :: r) m (Back SL R WW NN S c1 c2 c3 c4 oSL (PySem.W.listOf (List.toArray vr) nr) (PySem.W.listOf (List.toArray vw) nw) (PySem.W.listOf (List.toArray vn) nn) (LCg.lst sv) o1 o2 o3 o4 (q ++ os)) := by
  subst hf
  subst hmx
  refine ItemsRest.pair fun T t h tk' hT F => AllObj.cons fun oe _ => AllObj.cons fun oit _ => AllObj.nil fun N => ?_
  refine wpAny_mono (tn { s with heap := h, toks := tk' } E m T (it + 1) it oe oit t i x q os mn SL R WW NN S oSL (LCg.lst sv) o1 o2 o3 o4 b4 vr vw vn nr nw nn rs ws ns hi hns hni hT F Kn N
    X.ir X.iw X.inn X.hw X.d1 d4 St X.W X.r1 ⟨lt _ (.head _), lt _ (.tail _ (.head _))⟩ (Nat.lt_succ_self it) rg dis) (fun _ s₂ h2 => wpAny_mono h2 (fun fl s₃ h3 => ?_) fun _ _ e => e) fun _ _ e => e
  obtain ⟨⟨rfl, h', tk2, m', o4', b4', rfl, F', Kn', N', d4'⟩⟩ := h3
  have lt' : ∀ z ∈ Back SL R WW NN S c1 c2 c3 c4 oSL (PySem.W.listOf (List.toArray vr) nr) (PySem.W.listOf (List.toArray vw) nw) (PySem.W.listOf (List.toArray vn) nn) (LCg.lst sv) o1 o2 o3 o4' os, z.1 < it := fun z hz => by
    have e : z.1 ∈ (Back SL R WW NN S c1 c2 c3 c4 oSL (PySem.W.listOf (List.toArray vr) nr) (PySem.W.listOf (List.toArray vw) nw) (PySem.W.listOf (List.toArray vn) nn) (LCg.lst sv) o1 o2 o3 o4 (q ++ os)).map (·.1) := by
      have := List.mem_map_of_mem (f := (·.1)) hz
      simp only [Back, List.map_cons, List.map_append, List.mem_cons, List.mem_append] at this ⊢
      rcases this with h | h | h | h | h | h | h | h | h | h <;> simp [h]
    obtain ⟨y, hy, e⟩ := List.mem_map.mp e
    rw [← e]; exact lt y hy
  refine ⟨h', tk2, m', _, rfl, F', N', fun p hp z hz e => ?_, ⟨.tail _ (.tail _ (.tail _ (.tail _ (.head _)))), trivial⟩, next m' o4' b4' Kn' d4' lt'⟩
  have l := lt' p hp
  rcases List.mem_cons.mp hz with rfl | hz
  · exact Nat.lt_irrefl it (Nat.lt_trans (Nat.lt_succ_self it) (by rw [e] at l; exact l))
  · rw [List.mem_singleton.mp hz] at e
    rw [e] at l
    exact Nat.lt_irrefl _ l
theorem last_loop {elts : List Expr} {kk : Nat} {pos : Pos} {body : List Stmt} {Q : Flow → Shared → Prop} {c1 c2 c3 c4 SL R WW NN S x1 x2 x3 x4 : Addr} {oSL o1 o2 o3 o4 : Obj} {b4 : Option Value} {vr vw vn : List Value} {nr nw nn : Nat} {rs ws : List Int} {m1 m2 m3 m4 : Int} {q1 q2 q3 q4 : Led}
    (tn : LastOK prog w A hb env (.Tuple elts kk pos) body c1 c2 c3 c4) (X : LastFix SL R WW NN S c1 c2 c3 c4 vr vw vn rs ws [m1, m2, m3, m4] o1) (hh : A.handled = none) (Kn : KnowsL m S NN R) (F : Fr hb env.locals s.heap m)
    (N : News hb env.locals s.heap (Back SL R WW NN S c1 c2 c3 c4 oSL (PySem.W.listOf (List.toArray vr) nr) (PySem.W.listOf (List.toArray vw) nw) (PySem.W.listOf (List.toArray vn) nn) (LCg.lst [.ref x1, .ref x2, .ref x3, .ref x4]) o1 o2 o3 o4 (q1 ++ (q2 ++ (q3 ++ q4)))))
    (d4 : o4.data = .cell b4) (s1 : Store prog w rs ws (fun _ => True) 1 m1 x1 q1) (s2 : Store prog w rs ws (fun _ => True) 2 m2 x2 q2) (s3 : Store prog w rs ws (fun _ => True) 3 m3 x3 q3) (s4 : Store prog w rs ws (fun _ => True) 4 m4 x4 q4)
    (rg : ∀ z ∈ q1 ++ (q2 ++ (q3 ++ q4)), SpotL S NN R c1 c2 c3 c4 z.1) (nd : ((q1 ++ (q2 ++ (q3 ++ q4))).map (·.1)).Nodup)
    (done : ∀ h' tk' m', Fr hb env.locals h' m' → Q .next { s with heap := h', toks := tk' }) :
    wpAny (model prog w) A (call (.type "enumerate") [.ref S]) (fun xv s₁ => wpAny (model prog w) A (pyIter xv) (fun it s₂ => TurnsAt prog w A hb env (.Tuple elts kk pos) body Q E it s₂) E s₁) E s := by
  have d1 := nd_perm nd
  have nd2 : ((q2 ++ (q3 ++ q4)).map (·.1)).Nodup := by rw [List.map_append, List.nodup_append] at nd; exact nd.2.1
  have d2 := nd_perm nd2
  have nd3 : ((q3 ++ q4).map (·.1)).Nodup := by rw [List.map_append, List.nodup_append] at nd2; exact nd2.2.1
  have d3 := nd_perm nd3
  refine ktu_enum (vs := [.ref x1, .ref x2, .ref x3, .ref x4]) (n := _) hh F N (.tail _ (.tail _ (.tail _ (.tail _ (.head _))))) rfl rfl rfl fun it lt => ?_
  refine last_step (mxi := 1) (q := q1) (os := q2 ++ (q3 ++ q4)) tn X 0 (by decide) rfl rfl rfl rfl Kn d4 s1 rg d1 lt fun m' o4' b4' Kn d4 lt => ?_
  have rg := fun z hz => rg z (List.mem_append_right _ hz)
  refine last_step (mxi := 2) (q := q2) (os := q3 ++ q4) tn X 1 (by decide) rfl rfl rfl rfl Kn d4 s2 rg d2 lt fun m' o4' b4' Kn d4 lt => ?_
  have rg := fun z hz => rg z (List.mem_append_right _ hz)
  refine last_step (mxi := 3) (q := q3) (os := q4) tn X 2 (by decide) rfl rfl rfl rfl Kn d4 s3 rg d3 lt fun m' o4' b4' Kn d4 lt => ?_
  have rg := fun z hz => rg z (List.mem_append_right _ hz)
  have lt' : ∀ z ∈ Back SL R WW NN S c1 c2 c3 c4 oSL (PySem.W.listOf (List.toArray vr) nr) (PySem.W.listOf (List.toArray vw) nw) (PySem.W.listOf (List.toArray vn) nn) (LCg.lst [.ref x1, .ref x2, .ref x3, .ref x4]) o1 o2 o3 o4' (q4 ++ []), z.1 < it := by rw [List.append_nil]; exact lt
  have e : Back SL R WW NN S c1 c2 c3 c4 oSL (PySem.W.listOf (List.toArray vr) nr) (PySem.W.listOf (List.toArray vw) nw) (PySem.W.listOf (List.toArray vn) nn) (LCg.lst [.ref x1, .ref x2, .ref x3, .ref x4]) o1 o2 o3 o4' q4 = Back SL R WW NN S c1 c2 c3 c4 oSL (PySem.W.listOf (List.toArray vr) nr) (PySem.W.listOf (List.toArray vw) nw) (PySem.W.listOf (List.toArray vn) nn) (LCg.lst [.ref x1, .ref x2, .ref x3, .ref x4]) o1 o2 o3 o4' (q4 ++ []) := by rw [List.append_nil]
  rw [e]
  refine last_step (mxi := 4) (q := q4) (os := []) tn X 3 (by decide) rfl rfl rfl rfl Kn d4 s4 (by rw [List.append_nil]; exact rg) (fun _ _ _ h => nomatch h) lt' fun m' o4' b4' Kn d4 lt => ?_
  exact ItemsRest.zero fun h' tk F' N' => done h' tk m' F'
theorem use_last {body b : List Stmt} {t : Expr} {Q : Flow → Shared → Prop} {a1 a2 a3 a4 a5 : Addr × Obj} {c1 c2 c3 c4 : Addr} {o1 o2 o3 o4 : Obj} {tl : Led} (_F : Fr hb env.locals s.heap m) (_N : News hb env.locals s.heap (a1 :: a2 :: a3 :: a4 :: a5 :: (c4, o4) :: (c3, o3) :: (c2, o2) :: (c1, o1) :: tl)) (_e : innerFor body = some (t, b))
    (tn : LastOK prog w A hb env t b c1 c2 c3 c4) (k : LastOK prog w A hb env t b c1 c2 c3 c4 → wpAny (model prog w) A (execs body env) Q E s) : wpAny (model prog w) A (execs body env) Q E s := k tn
end
theorem turn_orderL {h : Heap} {a b c d e1 e2 f1 f2 f3 f4 f5 f6 f7 f8 f9 : Addr × Obj} {os : Led} (N : News hb L h (e1 :: e2 :: f1 :: f2 :: f3 :: f4 :: f5 :: f6 :: f7 :: f8 :: f9 :: ([a, b, c, d] ++ os))) : News hb L h (a :: b :: c :: d :: e1 :: e2 :: f1 :: f2 :: f3 :: f4 :: f5 :: f6 :: f7 :: f8 :: f9 :: os) := nsub N fun q hq => by
  simp only [List.mem_cons, List.cons_append, List.nil_append] at hq ⊢
  rcases hq with h | h | h | h | h | h | h | h | h | h | h | h | h | h | h | h <;> simp [h]
theorem apart_turnL {oa ob oc od : Obj} {SL R WW NN S c1 c2 c3 c4 e it : Addr} {oe oit oSL oR oW oN oS o1 o2 o3 o4 : Obj} {os : Led} (rg : ∀ p ∈ [(x, oa), (dx, ob), (D, oc), (O, od)] ++ os, SpotL S NN R c1 c2 c3 c4 p.1) (qo : ∀ p ∈ [(x, oa), (dx, ob), (D, oc), (O, od)], ∀ z ∈ os, p.1 ≠ z.1)
    (W : Ords SL WW NN S c1 c2 c3 c4) (lit : SL < it ∧ R < it) (r9 : it < e) : Apart [x, dx, D, O] ((e, oe) :: (it, oit) :: Back SL R WW NN S c1 c2 c3 c4 oSL oR oW oN oS o1 o2 o3 o4 os) := by
  have key : ∀ a ∈ [x, dx, D, O], ∃ o, (a, o) ∈ [(x, oa), (dx, ob), (D, oc), (O, od)] := fun a ha => by
    simp only [List.mem_cons, List.not_mem_nil, or_false] at ha
    rcases ha with rfl | rfl | rfl | rfl
    · exact ⟨_, .head _⟩
    · exact ⟨_, .tail _ (.head _)⟩
    · exact ⟨_, .tail _ (.tail _ (.head _))⟩
    · exact ⟨_, .tail _ (.tail _ (.tail _ (.head _)))⟩
  intro p hp ha
  obtain ⟨o, ho⟩ := key _ ha
  have z := rg _ (List.mem_append_left _ ho)
  obtain ⟨z1, z2, z3, z4, z5, z6, z7⟩ := z
  have lN : p.1 < SL := Nat.lt_trans z6 (Nat.lt_trans W.b2 W.b3)
  simp only [Back, List.mem_cons] at hp
  rcases hp with rfl | rfl | rfl | rfl | rfl | rfl | rfl | rfl | rfl | rfl | rfl | hp
  · exact Nat.lt_asymm lN (Nat.lt_trans lit.1 r9)
  · exact Nat.lt_asymm lN lit.1
  · exact Nat.lt_irrefl _ lN
  · exact z7 rfl
  · exact Nat.lt_asymm z6 W.b2
  · exact Nat.lt_irrefl _ z6
  · exact z1 rfl
  · exact Nat.lt_irrefl _ z2
  · exact Nat.lt_irrefl _ z3
  · exact Nat.lt_irrefl _ z4
  · exact Nat.lt_irrefl _ z5
  · exact qo _ ho _ hp rfl
structure SpotN (S NN R c1 c2 c3 c4 a : Addr) : Prop where
  s : @Ne Nat a S
  a4 : @LT.lt Nat _ c4 a
  a3 : @LT.lt Nat _ c3 a
  a2 : @LT.lt Nat _ c2 a
  a1 : @LT.lt Nat _ c1 a
  n : @LT.lt Nat _ a NN
  r : @Ne Nat a R
theorem spot_ofL {S NN R c1 c2 c3 c4 a : Addr} (z : SpotL S NN R c1 c2 c3 c4 a) : SpotN S NN R c1 c2 c3 c4 a := ⟨z.1, z.2.1, z.2.2.1, z.2.2.2.1, z.2.2.2.2.1, z.2.2.2.2.2.1, z.2.2.2.2.2.2⟩
section
def popA (rs ws : List Int) (mn : Int) : Ans := if mn = 0 then .word "lost" else .pair (tLast rs mn) (wth ws (tLast rs mn))
def popN (mn : Int) : Int := if mn = 0 then 0 else mn - 1
def pops (rs ws : List Int) : Nat → Int → List Ans
  | 0, _ => []
  | j + 1, mn => popA rs ws mn :: pops rs ws j (popN mn)
theorem pop_top {mn wv : Int} {tv tw : Tok} {rs ws : List Int} {h1 h2 h3 h4 cs : Int} {t1 t2 t3 t4 tc tm : Tok} {oD oO : Obj} (C : Cx 26 w A hb L env [] p loose mean mg mb) (P0 : Apt x dx D O) (F : Fr hb L s.heap m) (ap : Apart [x, dx, D, O] rest)
    (N : News hb L s.heap ((x, instObj 897 dx) :: (dx, dictOf (own h1 h2 h3 h4 t1 t2 t3 t4 D O cs mx tc tm) 4) :: (D, oD) :: (O, oO) :: rest)) (hcs : cs = (kvs.length : Int)) (hD : oD.IsDictOf (PySem.intKind prog w) kvs) (hO : oO.IsDictOf (PySem.intKind prog w) ovs) (Hn : A.handled = none)
    (I : Inv mx rs ws mn kvs ovs fun _ => True)
    (hQ : ∀ h' tk' v ex kvs' ovs' h1 h2 h3 h4 t1 t2 t3 t4 tc tm oD oO, Fr hb L h' m → News hb L h' ((x, instObj 897 dx) :: (dx, dictOf (own h1 h2 h3 h4 t1 t2 t3 t4 D O (kvs'.length : Int) mx tc tm) 4) :: (D, oD) :: (O, oO) :: (ex ++ rest)) → oD.IsDictOf (PySem.intKind prog w) kvs' → oO.IsDictOf (PySem.intKind prog w) ovs' → AnsAt (popA rs ws mn) v ex → Inv mx rs ws (popN mn) kvs' ovs' (fun _ => True) →
      (∀ q ∈ ex, AllLt q.1 rest ∧ O < q.1) → Q v { s with heap := h', toks := tk' }) :
    wpAny (model prog w) A (call (.ref 906) [.ref x, .int 10 tv, .int k t, .int wv tw]) Q E s := by
  subst hcs
  have S : Cache prog w hb L s.heap x dx D O mx kvs ovs (rest ++ []) := ⟨_, _, _, _, _, _, _, _, _, _, _, _, by rw [List.append_nil]; exact N, hD, hO⟩
  have ch := I.coh
  have kn : (keys kvs).Nodup := nodup_of hD
  unfold popA popN at hQ
  cases ovs with
  | nil =>
    have hm : mn = 0 := I.mn
    rw [if_pos hm, if_pos hm] at hQ
    refine deed_n (frs := []) C P0 F (tl_nil ap) S Hn ch rfl rfl fun h' tk' frs' tr T' F' S' => ?_
    have e := T'.frs_nil
    subst e
    rw [List.append_nil] at S'
    obtain ⟨h1, h2, h3, h4, t1, t2, t3, t4, tc, tm, oD, oO, N', hD', hO'⟩ := S'
    exact hQ h' tk' _ [] _ _ h1 h2 h3 h4 t1 t2 t3 t4 tc tm oD oO F' N' hD' hO' ⟨⟨_, rfl⟩, rfl⟩ (hm ▸ I) fun q h => nomatch h
  | cons p0 r =>
    obtain ⟨k0', u0⟩ := p0
    obtain ⟨v0, t0, e0, p0⟩ := I.there k0' (.head _)
    rw [p0 trivial] at e0
    have hm : mn ≠ 0 := by have := I.mn; simp only [List.length_cons] at this; omega
    rw [if_neg hm, if_neg hm] at hQ
    refine deed_m_some (frs := []) C P0 F (tl_nil ap) S Hn ch rfl rfl e0 fun h' tk' frs' tp tt nn T' F' S' l1 l2 => ?_
    have e := T'.frs_nil
    subst e
    rw [List.append_nil] at S' l1
    obtain ⟨h1, h2, h3, h4, t1, t2, t3, t4, tc, tm, oD, oO, N', hD', hO'⟩ := S'
    exact hQ h' tk' _ [_] _ _ h1 h2 h3 h4 t1 t2 t3 t4 tc tm oD oO F' N' hD' hO' ⟨_, _, _, _, rfl, by rw [show tLast rs mn = k0' from I.first]⟩ (I.pop kn fun _ => trivial) fun q h => by rw [List.mem_singleton.mp h]; exact ⟨l1, l2⟩
/-- the answers so far and the entries that they need -/
inductive Anss : List Ans → List Value → Led → Prop
  | nil : Anss [] [] []
  | snoc {as vs ex a v e} : Anss as vs ex → AnsAt a v e → Anss (as ++ [a]) (vs ++ [v]) (e ++ ex)
theorem lt_apt {q : Addr} (P0 : Apt x dx D O) (h : O < q) : q ∉ [x, dx, D, O] := fun hm => by
  obtain ⟨g1, g2, g3, _, _⟩ := P0
  simp only [List.mem_cons, List.not_mem_nil, or_false] at hm
  rcases hm with rfl | rfl | rfl | rfl
  · exact Nat.lt_asymm h (Nat.lt_trans g2 g3)
  · exact Nat.lt_asymm h (Nat.lt_trans g1 (Nat.lt_trans g2 g3))
  · exact Nat.lt_asymm h g3
  · exact Nat.lt_irrefl _ h
theorem pop_turns {elt : Expr} {v : Str} {scope : Scope} {cl : List (Str × Addr)} {s₀ : Shared} {Fin : List Value → Led → Prop} {Pq : Nat → Value → Prop} {lit os : Led} {rs ws : List Int} (C : Cx 26 w A hb L env [] p loose mean mg mb) (P0 : Apt x dx D O) (Hn : A.handled = none)
    (elem : ∀ I oI Cc oC D' ys m₂ h tk (E' : Value → Shared → Prop) (Q' : Value → Shared → Prop) tl a b c d, LCg.NsObj oC m₂ → Fr hb L h m → News hb L h ((I, oI) :: (Cc, oC) :: (D', LCg.lst ys) :: (x, a) :: (dx, b) :: (D, c) :: (O, d) :: (lit ++ tl)) →
      (∀ t0 t1 t2 tk', wpAny (model prog w) A (call (.ref 906) [.ref x, .int 10 t0, .int 0 t1, .int 0 t2]) Q' E' { s₀ with heap := h, toks := tk' }) → wpAny (model prog w) A (eval elt (compEnvC scope cl Cc env)) Q' E' { s₀ with heap := h, toks := tk }) :
    ∀ (j i : Nat) (ys : List Value) (exs : Led) (as : List Ans) (mn : Int) (kvs ovs : List (Int × Value)) (h1 h2 h3 h4 : Int) (t1 t2 t3 t4 tc tm : Tok) (oD oO : Obj), Anss as ys exs → Inv mx rs ws mn kvs ovs (fun _ => True) → oD.IsDictOf (PySem.intKind prog w) kvs → oO.IsDictOf (PySem.intKind prog w) ovs → Apart [x, dx, D, O] (lit ++ (exs ++ os)) →
      (∀ ys' exs' a b c d, Anss (as ++ pops rs ws j mn) ys' exs' → Fin ys' ((x, a) :: (dx, b) :: (D, c) :: (O, d) :: (lit ++ (exs' ++ os)))) →
      LCg.CompRest prog w A hb L m env elt v scope cl s₀ (fun _ => True) Pq Fin j i ys ((x, instObj 897 dx) :: (dx, dictOf (own h1 h2 h3 h4 t1 t2 t3 t4 D O (kvs.length : Int) mx tc tm) 4) :: (D, oD) :: (O, oO) :: (lit ++ (exs ++ os)))
  | 0, i, ys, exs, as, mn, kvs, ovs, h1, h2, h3, h4, t1, t2, t3, t4, tc, tm, oD, oO, hA, I, hD, hO, ap, fin => LCg.CompRest.zero (fin ys exs _ _ _ _ (by rw [show pops rs ws 0 mn = [] from rfl, List.append_nil]; exact hA))
  | j + 1, i, ys, exs, as, mn, kvs, ovs, h1, h2, h3, h4, t1, t2, t3, t4, tc, tm, oD, oO, hA, I, hD, hO, ap, fin => LCg.CompRest.succ (by
      intro u Ia oI Cc oC D' m₂ h tk E' hP hC hx F N off ne
      have offm := off.mem
      refine elem Ia oI Cc oC D' ys m₂ h tk E' _ (exs ++ os) _ _ _ _ hC F N fun z0 z1 z2 tk' => ?_
      have q1 := offm (x, _) (.head _)
      have q2 := offm (dx, _) (.tail _ (.head _))
      have q3 := offm (D, _) (.tail _ (.tail _ (.head _)))
      have q4 := offm (O, _) (.tail _ (.tail _ (.tail _ (.head _))))
      dsimp only at q1 q2 q3 q4
      have ap' : Apart [x, dx, D, O] ((Ia, oI) :: (Cc, oC) :: (D', LCg.lst ys) :: (lit ++ (exs ++ os))) := fun q hq hm => by
        simp only [List.mem_cons] at hq
        rcases hq with rfl | rfl | rfl | hq
        · simp only [List.mem_cons, List.not_mem_nil, or_false] at hm
          rcases hm with h | h | h | h
          · exact q1.1 h.symm
          · exact q2.1 h.symm
          · exact q3.1 h.symm
          · exact q4.1 h.symm
        · simp only [List.mem_cons, List.not_mem_nil, or_false] at hm
          rcases hm with h | h | h | h
          · exact q1.2.1 h.symm
          · exact q2.2.1 h.symm
          · exact q3.2.1 h.symm
          · exact q4.2.1 h.symm
        · simp only [List.mem_cons, List.not_mem_nil, or_false] at hm
          rcases hm with h | h | h | h
          · exact q1.2.2 h.symm
          · exact q2.2.2 h.symm
          · exact q3.2.2 h.symm
          · exact q4.2.2 h.symm
        · exact ap q hq hm
      refine pop_top (h1 := h1) (h2 := h2) (h3 := h3) (h4 := h4) (t1 := t1) (t2 := t2) (t3 := t3) (t4 := t4) (tc := tc) (tm := tm) (s := { s₀ with heap := h, toks := tk' }) (rest := (Ia, oI) :: (Cc, oC) :: (D', LCg.lst ys) :: (lit ++ (exs ++ os))) C P0 F ap' (nsub N fun q hq => ?_) rfl hD hO Hn I fun h' tk2 va ex kvs' ovs' g1 g2 g3 g4 s1 s2 s3 s4 sc sm oD' oO' F' N' hD' hO' ha' I' fresh => ?_
      · simp only [List.mem_cons] at hq ⊢
        rcases hq with h | h | h | h | h | h | h | h <;> simp [h]
      · have apx : ∀ q ∈ ex, q.1 ∉ [x, dx, D, O] := fun q hq => lt_apt P0 (fresh q hq).2
        refine ⟨h', tk2, (x, instObj 897 dx) :: (dx, dictOf (own g1 g2 g3 g4 s1 s2 s3 s4 D O (kvs'.length : Int) mx sc sm) 4) :: (D, oD') :: (O, oO') :: (lit ++ ((ex ++ exs) ++ os)), rfl, F', nsub N' fun q hq => ?_, LCg.Off3.of fun q hq => ?_, trivial, ?_⟩
        · simp only [List.mem_cons, List.mem_append] at hq ⊢
          rcases hq with h | h | h | h | h | h | h | h | (h | h) | h <;> simp [h]
        · simp only [List.mem_cons, List.mem_append] at hq
          have hx' : q.1 = x ∨ q.1 = dx ∨ q.1 = D ∨ q.1 = O ∨ q ∈ ex ∨ q ∈ lit ++ (exs ++ os) := by
            rcases hq with h | h | h | h | h | (h | h) | h <;> simp [h]
          rcases hx' with h | h | h | h | h | h
          · rw [h]; exact q1
          · rw [h]; exact q2
          · rw [h]; exact q3
          · rw [h]; exact q4
          · have lt := (fresh q h).1
            exact ⟨Ne.symm (Nat.ne_of_lt (allLt_mem lt (Ia, oI) (.head _))), Ne.symm (Nat.ne_of_lt (allLt_mem lt (Cc, oC) (.tail _ (.head _)))), Ne.symm (Nat.ne_of_lt (allLt_mem lt (D', LCg.lst ys) (.tail _ (.tail _ (.head _)))))⟩
          · exact offm q (.tail _ (.tail _ (.tail _ (.tail _ h))))
        · refine pop_turns C P0 Hn elem j (i + 1) (ys ++ [va]) (ex ++ exs) (as ++ [popA rs ws mn]) (popN mn) kvs' ovs' g1 g2 g3 g4 s1 s2 s3 s4 sc sm oD' oO' (.snoc hA ha') I' hD' hO' (fun q hq => ?_) fun ys' exs' a b c d hA' => fin ys' exs' a b c d (by
            rw [show pops rs ws (j + 1) mn = popA rs ws mn :: pops rs ws j (popN mn) from rfl, List.append_cons]; exact hA')
          simp only [List.mem_append] at hq
          rcases hq with h | (h | h) | h
          · exact ap q (List.mem_append_left _ h)
          · exact apx q h
          · exact ap q (List.mem_append_right _ (List.mem_append_left _ h))
          · exact ap q (List.mem_append_right _ (List.mem_append_right _ h)))
end
section
def datOf : Ans → PyData
  | .num n => .int n
  | .word w => .str (Str.ofString w)
  | .pair a b => .tuple [.int a, .int b]
def Plain : Ans → Prop
  | .word w => w = "lost"
  | _ => True
inductive AnssH (h : Heap) : List Ans → List Value → Prop
  | nil : AnssH h [] []
  | cons {a v as vs} : AnsH a v h → AnssH h as vs → AnssH h (a :: as) (v :: vs)
theorem AnssH.append {h : Heap} {b : List Ans} {w : List Value} (y : AnssH h b w) : ∀ {a : List Ans} {v : List Value}, AnssH h a v → AnssH h (a ++ b) (v ++ w)
  | _, _, .nil => y
  | _, _, .cons x r => .cons x (AnssH.append y r)
theorem AnssH.length {h : Heap} : ∀ {a : List Ans} {v : List Value}, AnssH h a v → v.length = a.length
  | _, _, .nil => rfl
  | _, _, .cons _ r => by simp only [List.length_cons, r.length]
theorem Anss.up {h : Heap} {as : List Ans} {vs : List Value} {ex : Led} (x : Anss as vs ex) : (∀ q ∈ ex, h.get? q.1 = some q.2) → AnssH h as vs := by
  induction x with
  | nil => exact fun _ => .nil
  | snoc _ ha ih => exact fun k => (AnssH.append (.cons (ha.up fun q hq => k q (List.mem_append_left _ hq)) .nil) (ih fun q hq => k q (List.mem_append_right _ hq)))
theorem Anss.length {as : List Ans} {vs : List Value} {ex : Led} (x : Anss as vs ex) : vs.length = as.length := by
  induction x with
  | nil => rfl
  | snoc _ _ ih => simp only [List.length_append, ih, List.length_cons, List.length_nil]
theorem AnsH.reads {h : Heap} {a : Ans} {v : Value} (x : AnsH a v h) : Reads h v (datOf a) [] := by
  cases a with
  | num n => obtain ⟨t, rfl⟩ := x; exact .int _ _
  | word n => obtain ⟨t, rfl⟩ := x; exact .str _ _
  | pair a b =>
    obtain ⟨tp, t1, t2, n, rfl, e⟩ := x
    exact reads_tuple_at e rfl rfl (readsAll_cons_val (.int _ _) (readsAll_cons_val (.int _ _) .nil))
theorem AnssH.reads {h : Heap} : ∀ {as : List Ans} {vs : List Value}, AnssH h as vs → ReadsAll h vs (as.map datOf) []
  | _, _, .nil => .nil
  | _, _, .cons x r => readsAll_cons_val x.reads r.reads
theorem dat_lay {a : Ans} (pl : Plain a) : (datOf a).canLay0 = true := by
  cases a with
  | num n => simp [datOf, PyData.canLay0]
  | word w =>
    have pl : w = "lost" := pl
    subst pl
    simp only [datOf, PyData.canLay0]
    decide +kernel
  | pair a b => simp [datOf, PyData.canLay0, PyData.canLayAll0]
theorem dat_depth {a : Ans} : (datOf a).depth ≤ 1 := by
  cases a <;> simp [datOf, PyData.depth, PyData.depthAll]
theorem dat_eqv {a : Ans} : PyData.eqv (datOf a) (datOf a) = true := by
  cases a <;> simp [datOf, PyData.eqv, PyData.eqvAll]
theorem dats_lay : ∀ {as : List Ans}, (∀ a ∈ as, Plain a) → PyData.canLayAll0 (as.map datOf) = true
  | [], _ => by simp [PyData.canLayAll0]
  | a :: r, h => by
    rw [List.map_cons]
    simp only [PyData.canLayAll0, dat_lay (h a (.head _)), dats_lay (as := r) fun x hx => h x (.tail _ hx), Bool.and_self]
theorem dats_depth : ∀ {as : List Ans}, PyData.depthAll (as.map datOf) ≤ 1
  | [] => by simp [PyData.depthAll]
  | a :: r => by
    rw [List.map_cons]
    simp only [PyData.depthAll]
    have h1 := @dat_depth a
    have h2 := @dats_depth r
    omega
theorem dats_eqv : ∀ {as : List Ans}, PyData.eqvAll (as.map datOf) (as.map datOf) = true
  | [] => by simp [PyData.eqvAll]
  | a :: r => by
    rw [List.map_cons]
    simp only [PyData.eqvAll, dat_eqv, @dats_eqv r, Bool.and_self]
theorem dats_shaped {as : List Ans} (h : ∀ a ∈ as, Plain a) : PySem.SeqAt.shaped (.list (as.map datOf)) = true := by
  unfold PySem.SeqAt.shaped
  simp only [PyData.canLay0, PyData.depth, dats_lay h, Bool.true_and]
  have := @dats_depth as
  exact decide_eq_true (by omega)
theorem ne_anss {as : List Ans} {a b : Addr} {xs ys : List Value} (ha : s.heap.IsList a xs.toArray) (hb : s.heap.IsList b ys.toArray) (h1 : AnssH s.heap as xs) (h2 : AnssH s.heap as ys) (pl : ∀ a ∈ as, Plain a) (hu : A.units + 64 < cLine) (h : Q (.bool false) s) :
    wpAny (model prog w) A (compareOp .NotEq (.ref a) (.ref b)) Q E s := by
  obtain ⟨oa, ga, ca, na, da⟩ := ha
  obtain ⟨ob, gb, cb, nb, db⟩ := hb
  refine ne_dataH (reads_list_at ga ca da h1.reads) (reads_list_at gb cb db h2.reads) (dats_shaped pl) (dats_shaped pl) hu ?_
  have e : PyData.eqv (.list (as.map datOf)) (.list (as.map datOf)) = true := by simp only [PyData.eqv, dats_eqv]
  rw [e]
  exact h
/-- what the popitems give: the last keys of the list with their worths, then «lost» -/
theorem pops_eq {rs ws : List Int} : ∀ (j n : Nat), n ≤ j → n ≤ rs.length → pops rs ws j (n : Int) = (rs.drop (rs.length - n)).map (fun k => Ans.pair k (wth ws k)) ++ List.replicate (j - n) (Ans.word "lost")
  | 0, n, h, _ => by
    have : n = 0 := by omega
    subst this
    simp [pops]
  | j + 1, 0, _, _ => by
    have e : popN ((0 : Nat) : Int) = ((0 : Nat) : Int) := by unfold popN; rw [if_pos (by rfl)]; rfl
    have a : popA rs ws ((0 : Nat) : Int) = .word "lost" := by unfold popA; rw [if_pos (by rfl)]
    have ih := pops_eq (rs := rs) (ws := ws) j 0 (Nat.zero_le _) (Nat.zero_le _)
    rw [show pops rs ws (j + 1) ((0 : Nat) : Int) = popA rs ws ((0 : Nat) : Int) :: pops rs ws j (popN ((0 : Nat) : Int)) from rfl, e, a, ih]
    simp [List.replicate_succ]
  | j + 1, n + 1, h, hl => by
    have hne : ((n + 1 : Nat) : Int) ≠ 0 := by omega
    have e : popN ((n + 1 : Nat) : Int) = (n : Int) := by unfold popN; rw [if_neg hne]; omega
    have a : popA rs ws ((n + 1 : Nat) : Int) = .pair (tLast rs ((n + 1 : Nat) : Int)) (wth ws (tLast rs ((n + 1 : Nat) : Int))) := by unfold popA; rw [if_neg hne]
    have ih := pops_eq (rs := rs) (ws := ws) j n (by omega) (by omega)
    rw [show pops rs ws (j + 1) ((n + 1 : Nat) : Int) = popA rs ws ((n + 1 : Nat) : Int) :: pops rs ws j (popN ((n + 1 : Nat) : Int)) from rfl, e, a, ih]
    have ix : rs.length - (n + 1) < rs.length := by omega
    have hd : rs.drop (rs.length - (n + 1)) = rs[rs.length - (n + 1)] :: rs.drop (rs.length - n) := by
      rw [List.drop_eq_getElem_cons ix]
      congr 2
      omega
    have tl : tLast rs ((n + 1 : Nat) : Int) = rs[rs.length - (n + 1)] := by
      unfold tLast
      have e1 : ((rs.length : Int) - ((n + 1 : Nat) : Int)).toNat = rs.length - (n + 1) := by omega
      rw [e1, List.getD_eq_getElem?_getD, List.getElem?_eq_getElem ix]; rfl
    rw [hd, tl, List.map_cons, List.cons_append]
    congr 3
    omega
theorem pairs_plain {rs ws : List Int} {j : Nat} {mn : Int} : ∀ a ∈ pops rs ws j mn, Plain a := by
  induction j generalizing mn with
  | zero => intro a h; cases h
  | succ j ih =>
    intro a h
    rcases List.mem_cons.mp h with rfl | h
    · unfold popA
      split
      · exact rfl
      · exact trivial
    · exact ih a h
theorem comp_re {elt : Expr} {v : Str} {scope : Scope} {cl : List (Str × Addr)} {s₀ : Shared} {Fin : List Value → Led → Prop} {Pq : Nat → Value → Prop} {Sx : Led → Prop} {j i : Nat} {ys : List Value} {n n' : Led} (sub : ∀ q ∈ n', q ∈ n)
    (h : LCg.CompRest prog w A hb L m env elt v scope cl s₀ Sx Pq Fin (j + 1) i ys n') : LCg.CompRest prog w A hb L m env elt v scope cl s₀ Sx Pq Fin (j + 1) i ys n :=
  LCg.CompRest.succ fun u I oI C oC D m₂ h' tk E' hP hC hx F N off ne => h u I oI C oC D m₂ h' tk E' hP hC hx F (nsub N fun q hq => by
    simp only [List.mem_cons] at hq ⊢
    rcases hq with h | h | h | h
    · exact .inl h
    · exact .inr (.inl h)
    · exact .inr (.inr (.inl h))
    · exact .inr (.inr (.inr (sub q h)))) (LCg.Off3.of fun q hq => off.mem q (sub q hq)) ne
theorem pair_turns {elt : Expr} {v : Str} {scope : Scope} {cl : List (Str × Addr)} {s₀ : Shared} {Fin : List Value → Led → Prop} {Sx : Led → Prop} {lit os : Led} {vs : List Value} {ns ws : List Int} (hi : IntsAre vs ns) (hS : ∀ tl, Sx (lit ++ tl))
    (elem : ∀ k t I oI Cc oC D' ys m₂ h tk (E' : Value → Shared → Prop) tl, k ∈ ns → LCg.NsObj oC m₂ → m₂ v = some (.int k t) → Fr hb L h m → News hb L h ((I, oI) :: (Cc, oC) :: (D', LCg.lst ys) :: (lit ++ tl)) →
      wpAny (model prog w) A (eval elt (compEnvC scope cl Cc env)) (fun y s' => Pause (∃ h' tk' tp t1 t2 nn, s' = { s₀ with heap := h', toks := tk' } ∧ y = .ref tp ∧ Fr hb L h' m ∧
        News hb L h' ((tp, { cls := .type "tuple", data := .seq #[.int k t1, .int (wth ws k) t2] nn }) :: (I, oI) :: (Cc, oC) :: (D', LCg.lst ys) :: (lit ++ tl)) ∧ I < tp ∧ Cc < tp ∧ D' < tp)) E' { s₀ with heap := h, toks := tk })
    (fin : ∀ ys exs, Anss (ns.map fun k => Ans.pair k (wth ws k)) ys exs → Fin ys (lit ++ (exs ++ os))) :
    ∀ (j i : Nat) (ys : List Value) (exs : Led), i + j = vs.toArray.size → Anss ((ns.take i).map fun k => Ans.pair k (wth ws k)) ys exs → LCg.CompRest prog w A hb L m env elt v scope cl s₀ Sx (fun i u => vs.toArray[i]? = some u) Fin j i ys (lit ++ (exs ++ os))
  | 0, i, ys, exs, e, hA => LCg.CompRest.zero (fin ys exs (by
      have hlen : vs.toArray.size = ns.length := by simp [hi.length]
      have : ns.take i = ns := List.take_of_length_le (by omega)
      rw [this] at hA; exact hA))
  | j + 1, i, ys, exs, e, hA => LCg.CompRest.succ (by
      have hlen : vs.toArray.size = ns.length := by simp [hi.length]
      intro u Ia oI Cc oC D' m₂ h tk E' hP hC hx F N off ne
      have il : i < ns.length := by omega
      obtain ⟨t, ht⟩ := hi.get i ns[i] (by simp [il])
      have hu : u = .int ns[i] t := by
        have hP' : vs[i]? = some u := by simpa using hP
        rw [ht] at hP'; exact (Option.some.inj hP').symm
      subst hu
      have offm := off.mem
      refine wpAny_mono (elem ns[i] t Ia oI Cc oC D' ys m₂ h tk E' (exs ++ os) (List.getElem_mem il) hC hx F N) (fun y s' q => ?_) fun _ _ z => z
      obtain ⟨⟨h', tk', tp, t1, t2, nn, rfl, rfl, F', N', a1, a2, a3⟩⟩ := q
      obtain ⟨tup, etup⟩ : ∃ tup : Addr × Obj, tup = (tp, { cls := .type "tuple", data := .seq #[.int ns[i] t1, .int (wth ws ns[i]) t2] nn }) := ⟨_, rfl⟩
      rw [← etup] at N'
      refine ⟨h', tk', lit ++ (([tup] ++ exs) ++ os), rfl, F', nsub N' fun q hq => ?_, LCg.Off3.of fun q hq => ?_, hS _, ?_⟩
      · simp only [List.mem_cons, List.mem_append, List.not_mem_nil, or_false] at hq ⊢
        rcases hq with h | h | h | h | (h | h) | h <;> simp [h]
      · simp only [List.mem_cons, List.mem_append, List.not_mem_nil, or_false] at hq
        have hq' : q = tup ∨ q ∈ lit ++ (exs ++ os) := by
          simp only [List.mem_append]
          rcases hq with h | (h | h) | h <;> simp [h]
        rcases hq' with h | h
        · rw [h, etup]; exact ⟨Ne.symm (Nat.ne_of_lt a1), Ne.symm (Nat.ne_of_lt a2), Ne.symm (Nat.ne_of_lt a3)⟩
        · exact offm q h
      · refine pair_turns hi hS elem fin j (i + 1) (ys ++ [.ref tp]) ([tup] ++ exs) (by omega) ?_
        rw [List.take_add_one, List.map_append, List.getElem?_eq_getElem il]
        exact .snoc hA ⟨tp, t1, t2, nn, rfl, by rw [etup]⟩)
theorem AnssH.lost {h : Heap} {t : Tok} : ∀ n : Nat, AnssH h (List.replicate n (.word "lost")) (List.replicate n (.str (Str.ofString "lost") t))
  | 0 => .nil
  | n + 1 => .cons ⟨t, rfl⟩ (AnssH.lost n)
theorem one_flatten {v : Value} : ∀ n : Nat, (List.replicate n [v]).flatten = List.replicate n v
  | 0 => rfl
  | n + 1 => by rw [List.replicate_succ, List.replicate_succ, List.flatten_cons, one_flatten n]; rfl
theorem pops_parts {rs ws : List Int} {mn : Int} (h0 : 0 ≤ mn) (h4 : mn ≤ 6) (hl : mn ≤ rs.length) :
    pops rs ws 6 mn = (rs.drop ((rs.length : Int) - mn).toNat).map (fun k => Ans.pair k (wth ws k)) ++ List.replicate ((6 : Int) - ((rs.drop ((rs.length : Int) - mn).toNat).length : Nat)).toNat (Ans.word "lost") := by
  obtain ⟨n, rfl⟩ := Int.eq_ofNat_of_zero_le h0
  have e1 : ((rs.length : Int) - (n : Int)).toNat = rs.length - n := by omega
  rw [e1, pops_eq 6 n (by omega) (by omega), List.length_drop]
  congr 2
  omega
theorem apart_cons {a : Addr} {o : Obj} (h1 : x < a) (h2 : dx < a) (h3 : D < a) (h4 : O < a) (h : Apart [x, dx, D, O] rest) : Apart [x, dx, D, O] ((a, o) :: rest) := fun q hq hm => by
  rcases List.mem_cons.mp hq with rfl | hq
  · simp only [List.mem_cons, List.not_mem_nil, or_false] at hm
    rcases hm with h | h | h | h
    · exact Nat.ne_of_gt h1 h
    · exact Nat.ne_of_gt h2 h
    · exact Nat.ne_of_gt h3 h
    · exact Nat.ne_of_gt h4 h
  · exact h q hq hm
theorem comp_re16 {elt : Expr} {v : Str} {scope : Scope} {cl : List (Str × Addr)} {s₀ : Shared} {Fin : List Value → Led → Prop} {Pq : Nat → Value → Prop} {Sx : Led → Prop} {j i : Nat} {ys : List Value} {r a b c d e1 e2 f1 f2 f3 f4 f5 f6 f7 f8 f9 : Addr × Obj} {os : Led}
    (h : LCg.CompRest prog w A hb L m env elt v scope cl s₀ Sx Pq Fin (j + 1) i ys (a :: b :: c :: d :: ([r, e1, e2, f1, f2, f3, f4, f5, f6, f7, f8, f9] ++ ([] ++ os)))) :
    LCg.CompRest prog w A hb L m env elt v scope cl s₀ Sx Pq Fin (j + 1) i ys (r :: a :: b :: c :: d :: e1 :: e2 :: f1 :: f2 :: f3 :: f4 :: f5 :: f6 :: f7 :: f8 :: f9 :: os) := comp_re (fun q hq => by
  simp only [List.mem_cons, List.cons_append, List.nil_append] at hq ⊢
  rcases hq with h | h | h | h | h | h | h | h | h | h | h | h | h | h | h | h | h <;> simp [h]) h
theorem comp_lit13 {elt : Expr} {v : Str} {scope : Scope} {cl : List (Str × Addr)} {s₀ : Shared} {Fin : List Value → Led → Prop} {Pq : Nat → Value → Prop} {Sx : Led → Prop} {j i : Nat} {ys : List Value} {g r e1 e2 f1 f2 f3 f4 f5 f6 f7 f8 f9 : Addr × Obj} {os : Led}
    (h : LCg.CompRest prog w A hb L m env elt v scope cl s₀ Sx Pq Fin j i ys ([g, r, e1, e2, f1, f2, f3, f4, f5, f6, f7, f8, f9] ++ ([] ++ os))) :
    LCg.CompRest prog w A hb L m env elt v scope cl s₀ Sx Pq Fin j i ys (g :: r :: e1 :: e2 :: f1 :: f2 :: f3 :: f4 :: f5 :: f6 :: f7 :: f8 :: f9 :: os) := h
theorem drop_quad {h : Heap} {g a b c d : Addr × Obj} {l : Led} (N : News hb L h (g :: a :: b :: c :: d :: l)) : News hb L h (g :: l) := nsub N fun q hq => by
  rcases List.mem_cons.mp hq with rfl | hq
  · exact .head _
  · exact .tail _ (.tail _ (.tail _ (.tail _ (.tail _ hq))))
theorem last_back {h : Heap} {e1 e2 f1 f2 f3 f4 f5 f6 f7 f8 f9 : Addr × Obj} {x2 x1 os : Led} (N : News hb L h (e1 :: e2 :: f1 :: f2 :: f3 :: f4 :: f5 :: f6 :: f7 :: f8 :: f9 :: (x2 ++ (x1 ++ os)))) : News hb L h (e1 :: e2 :: f1 :: f2 :: f3 :: f4 :: f5 :: f6 :: f7 :: f8 :: f9 :: os) := nsub N fun q hq => by
  simp only [List.mem_cons, List.mem_append] at hq ⊢
  rcases hq with h | h | h | h | h | h | h | h | h | h | h | h <;> simp [h]
end
end
end
section
local macro_rules | `(tactic| walk_at "CompSrc") => `(tactic| (k_here; k_dflt (refine LCg.CompSrc.range (by rfl) (by k_asm) (by k_asm) (by assumption) (by first | decide | rfl) (by first | rfl | decide) (by first | size_fits | exact Nat.le_of_ble_eq_true rfl) ?_; intro g'; lcg_lit)))
local macro_rules | `(tactic| walk_at "getAttr ref true") => `(tactic| (k_here; (with_reducible show wpAny _ _ (getAttr (Value.ref _) "getsizeof" _) _ _ _); k_dflt (refine' inst_sm ?k1 ?k2 ?k4 ?k5 ?k6 ?k7 ?k8 ?k9 ?k10 ?k11 ?k12 ?k13 ?k14 ?_; (case k1 => k_asm); (case k2 => k_asm); (case k4 => k_inst); (case k5 => k_is); (case k6 => k_is); (case k7 => k_is); (case k8 => k_is); (case k9 => k_is); (case k10 => k_is); (case k11 => decide +kernel); (case k12 => k_get); (case k13 => k_is); (case k14 => k_handed); k_whole)))
local macro_rules | `(tactic| walk_at "eval Dict nil nil") => `(tactic| (k_here; k_dflt (refine' newDict_K ?k1 ?k2 (TopRead.nolimit ?k3) ?_; (case k1 => k_asm); (case k2 => k_asm); (case k3 => k_asm); k_whole); intro d' h' o' F' N' l1 lo' hs' fs' hi' fi'; (try k_lt l1); (try k_sweep)))
local macro_rules | `(tactic| walk_at "call ref") => `(tactic| (k_here; (with_reducible show wpAny _ _ (call (Value.ref 897) _) _ _ _); k_dflt (refine' make_top ⟨?k1, ?k2, ?k3, ?k4, ?k5, ?k6⟩ ?k7 ?k8 ?k9 ?_; (case k7 => k_asm); (case k1 => k_asm); (case k2 => k_asm); (case k3 => rfl); (case k4 => rfl); (case k5 => rfl); (case k6 => k_room); (case k8 => k_asm); (case k9 => omega); k_whole; intro h' tk' x' dx' D' O' h1' h2' h3' h4' t1' t2' t3' t4' tc' tm' oD' oO' F' N' hD' hO' P' l1; obtain ⟨g1', g2', g3', loD', loO'⟩ := P')))
local macro_rules | `(tactic| walk_at "CompEnd") => `(tactic| (refine compEnd_quad (by assumption) (by assumption) (by assumption) (by assumption) (by assumption) (by assumption) (by assumption) ?_))
local macro_rules | `(tactic| walk_at "CompRest") => `(tactic| (with_unfolding_all first | (refine LCg.CompRest.succ ?_; intro v' I' oI' C' oC' D' m' h' tk' E' hv' hC' hx' F' N' off' ne'; (obtain ⟨t9', hv9'⟩ := hv'; subst hv9')) | refine LCg.CompRest.zero (hold ?_)))
local macro_rules | `(tactic| k_lt $h:ident) => `(tactic| (have k_tl := allLt_of $h; (simp only [AllLt, and_true] at k_tl); (repeat (replace k_tl := And.right k_tl)); replace $h := allLt_of $h; simp only [AllLt, and_true] at $h:ident))
local macro_rules | `(tactic| k_all) => `(tactic| first | assumption | exact allLt_ne (by assumption))
local macro_rules | `(tactic| walk_at "exec For") => `(tactic| (k_here; (with_reducible show wpAny _ _ (exec (Stmt.For (Expr.Name _ _) _ _ _ _) _) _ _ _); k_dflt (refine' For_V ?F ?hx ?hp ?_; (case F => k_asm); (case hx => rfl); (case hp => rfl))))
local macro_rules | `(tactic| walk_at "pyIter ref") => `(tactic| (k_here; (with_reducible show wpAny _ _ (pyIter (Value.ref _)) (fun it s₂ => LoopAtV _ _ _ _ _ _ _ _ _ it s₂) _ _); refine hold ?_))
local macro_rules | `(tactic| walk_at "exec Assign cons ListComp") => `(tactic| (k_here; lct_look; k_dflt (refine LCt.Assign_ListComp_T (F₀ := by k_asm) (by rfl) (by with_unfolding_all rfl) (by with_unfolding_all rfl) (by decide) (by rfl) (by decide) (by rfl) (by rfl) (by rfl) ?_); k_dflt lct_toSrc))
local macro_rules | `(tactic| walk_at "CompSrcT") => `(tactic| (k_here; k_dflt (refine LCt.CompSrcT.ledger (by rfl) (by k_asm) (by k_asm) (by k_mem) (by assumption) ?_; intro g'; refine hold ?_)))
local macro_rules | `(tactic| walk_at "exec For Tuple Call cons nil") => `(tactic| (k_here; k_dflt (refine' For_turns ?F ?_; (case F => k_asm))))
local macro_rules | `(tactic| walk_at "call type:enumerate") => `(tactic| (k_here; (with_reducible show wpAny _ _ (call (Value.type _) [Value.ref _]) (fun xv s₁ => wpAny _ _ (pyIter xv) (fun it s₂ => TurnsAt _ _ _ _ _ _ _ _ _ it s₂) _ s₁) _ _); refine hold ?_))
local macro_rules | `(tactic| walk_at "call ref") => `(tactic| (k_here; (with_reducible show wpAny _ _ (call (Value.ref 913) _) _ _ _); k_dflt (refine' told_store ⟨?k1, ?k2, ?k3, ?k4, ?k5, ?k6⟩ ?k7 ?ap ?k8 ?k9 ?k10 ?k11 ?k12 ?k13 ?k14 ?k15 ?k16 ?k17 ?k18 ?k19 ?k20 rfl ?k21 ?k22 ?_; (case k7 => k_asm); (case k8 => k_asm); (case ap => first | assumption | (refine' apart_map ?hh ?ee; (case hh => assumption); (case ee => rfl))); (case k9 => k_mem); (case k10 => k_mem); (case k1 => k_asm); (case k2 => k_asm); (case k3 => rfl); (case k4 => rfl); (case k5 => rfl); (case k6 => k_room); (case k11 => assumption); (case k12 => assumption); (case k13 => assumption); (case k14 => assumption); (case k15 => assumption); (case k16 => assumption); (case k17 => assumption); (case k18 => assumption); (case k19 => assumption); (case k20 => assumption); (case k21 => assumption); (case k22 => assumption); k_whole; intro h' tk' tp' v' za' zo' tb' F' N' ap2' ap1' ha')))
local macro_rules | `(tactic| walk_at "compareOp In int ref") => `(tactic| (k_here; k_dflt (refine' in_K ?k1 ?k2 ?k3 ?k4 ?k5 ?_; (case k1 => k_asm); (case k2 => k_asm); (case k3 => k_inst); (case k4 => k_is); (case k5 => k_is); k_whole)))
local macro_rules | `(tactic| walk_at "call ref") => `(tactic| (k_here; (with_reducible show wpAny _ _ (call (Value.ref 749) _) _ _ _); k_dflt (refine' contains_top ⟨?k1, ?k2, ?k3, ?k4, ?k5, ?k6⟩ ?k9 ?k7 ?ap ?k8 rfl ?k10 ?k11 ?_; (case k7 => k_asm); (case k8 => k_asm); (case k9 => assumption); (case ap => first | assumption | (refine' apart_map ?hh ?ee; (case hh => assumption); (case ee => rfl))); (case k1 => k_asm); (case k2 => k_asm); (case k3 => rfl); (case k4 => rfl); (case k5 => rfl); (case k6 => k_room); (case k10 => assumption); (case k11 => assumption); k_whole; intro h' tk' h1' h2' h3' h4' t1' t2' t3' t4' tc' tm' oD' oO' F' N' hD' hO'; rw [(by assumption : (valueAt _ _).isSome = _)])))
local macro_rules | `(tactic| walk_at "call ref") => `(tactic| (k_here; (with_reducible show wpAny _ _ (call (Value.ref 906) _) _ _ _); k_dflt (refine' deed_store ⟨?k1, ?k2, ?k3, ?k4, ?k5, ?k6⟩ ?k9 ?k7 ?ap ?k8 rfl ?k10 ?k11 rfl ?iv ?k12 ?k13 ?k14 ?k15 ?z ?zm ?zr ?_; (case k7 => k_asm); (case k8 => k_asm); (case k9 => assumption); (case ap => first | assumption | (refine' apart_map ?hh ?ee; (case hh => assumption); (case ee => rfl))); (case k1 => k_asm); (case k2 => k_asm); (case k3 => rfl); (case k4 => rfl); (case k5 => rfl); (case k6 => k_room); (case iv => assumption); (case k10 => assumption); (case k11 => assumption); (case k12 => assumption); (case k13 => assumption); (case k14 => assumption); (case k15 => assumption); (case z => assumption); (case zm => k_mem); (case zr => first | exact fun q hq => .tail _ (.tail _ hq) | exact fun q hq => .tail _ hq); k_whole; intro h' tk' v' kvs' ovs' h1' h2' h3' h4' t1' t2' t3' t4' tc' tm' oD' oO' F' N' ap' hD' hO' ha' hb' iv' q1' q2' q3' q4' q5' q6')))
local macro_rules | `(tactic| walk_at "compareOp NotEq bool bool") => `(tactic| (k_here; refine ne_bool_same ?_))
local macro_rules | `(tactic| walk_at "compareOp NotEq") => `(tactic| (k_here; k_dflt (refine' ans_neH ?a1 ?a2 ?a3 ?_; (case a1 => assumption); (case a2 => assumption); (case a3 => ke_room); k_whole)))
local macro_rules | `(tactic| walk_at "call ref") => `(tactic| (k_here; (with_reducible show wpAny _ _ (call (Value.ref 770) _) _ _ _); k_dflt (refine' len_top ⟨?k1, ?k2, ?k3, ?k4, ?k5, ?k6⟩ ?k9 ?k7 ?ap ?k8 rfl ?k10 ?k11 ?z ?_; (case k7 => k_asm); (case k8 => first | k_asm | exact drop1 (by k_asm) | exact drop1 (drop1 (by k_asm)) | exact drop1 (drop1 (drop1 (by k_asm))) | exact drop1 (drop1 (drop1 (drop1 (by k_asm))))); (case k9 => assumption); (case ap => first | assumption | (refine' apart_map ?hh ?ee; (case hh => assumption); (case ee => rfl))); (case k1 => k_asm); (case k2 => k_asm); (case k3 => rfl); (case k4 => rfl); (case k5 => rfl); (case k6 => k_room); (case k10 => assumption); (case k11 => assumption); (case z => assumption); k_whole; intro h' tk' t' h1' h2' h3' h4' t1' t2' t3' t4' tc' tm' oD' oO' F' N' hD' hO')))
local macro_rules | `(tactic| walk_at "getAttr ref") => `(tactic| (k_here; (with_reducible show wpAny _ _ (getAttr (Value.ref _) (PySem.Str.ofString "currsize") _) _ _ _); k_dflt (refine' size_gett ⟨?k1, ?k2, ?k3, ?k4, ?k5, ?k6⟩ ?k9 ?k7 ?ap ?k8 rfl ?k10 ?k11 ?_; (case k7 => k_asm); (case k8 => first | k_asm | exact drop1 (by k_asm) | exact drop1 (drop1 (by k_asm)) | exact drop1 (drop1 (drop1 (by k_asm))) | exact drop1 (drop1 (drop1 (drop1 (by k_asm))))); (case k9 => assumption); (case ap => first | assumption | (refine' apart_map ?hh ?ee; (case hh => assumption); (case ee => rfl))); (case k1 => k_asm); (case k2 => k_asm); (case k3 => rfl); (case k4 => rfl); (case k5 => rfl); (case k6 => k_room); (case k10 => assumption); (case k11 => assumption); k_whole; intro h' tk' t' h1' h2' h3' h4' t1' t2' t3' t4' tc' tm' oD' oO' F' N' hD' hO')))
local macro_rules | `(tactic| walk_at "compareOp NotEq ref ref") => `(tactic| (k_here; k_dflt (refine' ne_same ?a1 ?a2 ?a3 ?a4 ?a5 ?a6 ?_; (case a1 => is_list); (case a2 => is_list); (case a3 => l_ints); (case a4 => l_ints); (case a5 => ke_room); (case a6 => first | exact ksm_same (List.Perm.trans (by assumption) (List.Perm.symm (by assumption))) (by assumption) (by assumption) | exact ksm_same (List.Perm.trans (by assumption) (List.Perm.symm (List.Perm.trans (by assumption) (by assumption)))) (by assumption) (by assumption)); k_whole)))
local macro_rules | `(tactic| walk_at "eval ListComp") => `(tactic| (k_here; refine hold ?_))
local macro_rules | `(tactic| walk_at "LenBack") => `(tactic| (k_here; k_dflt (refine lenBackK (by omega) (by omega) ?_)))
local macro_rules | `(tactic| walk_at "compareOp NotEq int int") => `(tactic| (k_here; refine' ne_int_same ?e ?_; (case e => assumption)))
local macro_rules | `(tactic| walk_at "subscriptTail Name Slice ref ref") => `(tactic| (k_here; (with_reducible show wpAny _ _ (subscriptTail _ (PySem.Expr.Slice _ _ none _) (Value.ref _) (Value.ref _)) _ _ _); k_dflt (refine' kmk_slice_ints ?F ?N ?l ?p ?q ?i ?m ?c ?_ ?s ?t ?z; (case F => k_asm); (case N => k_asm); (case l => kmk_list); (case p => kmk_part); (case q => kmk_part); (case i => assumption); (case m => exact kmk_from (by assumption) (Int.sub_nonneg_of_le (by assumption))); (case c => exact rfl); (case s => with_unfolding_all rfl); (case t => kmk_pure); (case z => exact kmk_sz (by assumption) (by rw [sizeLine_eq]; omega)); k_whole); intro D' ws' h' F' N' l1 hI' hC' hL'; (try k_lt l1)))
local macro_rules | `(tactic| walk_at "CompRest") => `(tactic| ((fail_if_success (with_reducible show LCg.CompRest _ _ _ _ _ _ _ (PySem.Expr.Call _ [_] _ _) _ _ _ _ _ _ _ _ _ _ _)); refine hold ?_))
local macro_rules | `(tactic| walk_at "CompSrc") => `(tactic| (k_here; k_dflt (refine LCg.CompSrc.ledger (by rfl) (by k_asm) (by k_asm) (by k_mem) (by first | assumption | exact kmk_sz (by assumption) (by rw [sizeLine_eq]; omega)) ?_; intro g'; refine hold ?_)))
local macro_rules | `(tactic| walk_at "call ref") => `(tactic| (k_here; (with_reducible show wpAny _ _ (call (Value.ref 906) [_, Value.int 10 _, Value.int 0 _, Value.int 0 _]) _ _ _); refine hold ?_))
local macro_rules | `(tactic| walk_at "binaryOp Mult ref int") => `(tactic| (k_here; k_dflt (refine' PySem.W.KMa.mul ?F ?N ?l ?lo ?hi ?z (one_flatten _) ?_; (case F => k_asm); (case N => k_asm); (case l => is_list); (case lo => omega); (case hi => omega); (case z => simp only [List.length_cons, List.length_nil]; omega); k_whole); intro D' h' F' N' l1; (try k_lt l1)))
local macro_rules | `(tactic| walk_at "binaryOp Add ref ref") => `(tactic| (k_here; k_dflt (refine' kmk_add_lit ?F ?N ?a ?b rfl ?_ ?z; (case F => k_asm); (case N => k_asm); (case a => kmk_list); (case b => kmk_list); (case z => rw [sizeLine_eq]; simp only [List.length_replicate]; omega)); intro D' h' F' N' l1; (try k_lt l1)))
local macro_rules | `(tactic| walk_at "compareOp NotEq ref ref") => `(tactic| (k_here; (have mark' := (by assumption : Anss _ _ _)); refine hold ?_))
theorem to_top {P : Params} {K : Frag} {h : Heap} (x : K.In h) (e : K = top.heap_1 P) : (top.heap_1 P).In h := e ▸ x
def law_holds.tw1009379912136421947 : Unit := ()
def law_holds.tw11432565183293565587 : Unit := ()
def law_holds.tw11450738124608747046 : Unit := ()
def law_holds.tw11477622185144052613 : Unit := ()
def law_holds.tw12013988127634925379 : Unit := ()
def law_holds.tw12682052423322652342 : Unit := ()
def law_holds.tw12706923401357669638 : Unit := ()
def law_holds.tw12747535711097323745 : Unit := ()
def law_holds.tw1315970498727296868 : Unit := ()
def law_holds.tw13276130131300722947 : Unit := ()
def law_holds.tw13506315123279233519 : Unit := ()
def law_holds.tw13679895858646849597 : Unit := ()
def law_holds.tw13860318192625387111 : Unit := ()
def law_holds.tw13864471910354614359 : Unit := ()
def law_holds.tw14578849140555290487 : Unit := ()
def law_holds.tw14826091818025786295 : Unit := ()
def law_holds.tw15932827540086192757 : Unit := ()
def law_holds.tw1601895830593022294 : Unit := ()
def law_holds.tw1622915184434995962 : Unit := ()
def law_holds.tw16569546496388682650 : Unit := ()
def law_holds.tw16849284256912671741 : Unit := ()
def law_holds.tw16963050129315322610 : Unit := ()
def law_holds.tw17449644191371220912 : Unit := ()
def law_holds.tw17540154745229427244 : Unit := ()
def law_holds.tw17590937770903843232 : Unit := ()
def law_holds.tw17624761011548862817 : Unit := ()
def law_holds.tw18228115582160159668 : Unit := ()
def law_holds.tw2025218352740532070 : Unit := ()
def law_holds.tw2043661649646856153 : Unit := ()
def law_holds.tw2104802203949650006 : Unit := ()
def law_holds.tw2390159691453506235 : Unit := ()
def law_holds.tw2406221270116451535 : Unit := ()
def law_holds.tw2438108011408371378 : Unit := ()
def law_holds.tw2538134115887905947 : Unit := ()
def law_holds.tw339150685990480530 : Unit := ()
def law_holds.tw3916415251489922041 : Unit := ()
def law_holds.tw4394118770596489903 : Unit := ()
def law_holds.tw4470285039934516160 : Unit := ()
def law_holds.tw5389484754426515990 : Unit := ()
def law_holds.tw5719145918827576335 : Unit := ()
def law_holds.tw5860425014173383643 : Unit := ()
def law_holds.tw6367362942770335207 : Unit := ()
def law_holds.tw6860702969538882710 : Unit := ()
def law_holds.tw7417027301113370702 : Unit := ()
def law_holds.tw7741222316498805415 : Unit := ()
def law_holds.tw7791894054948487220 : Unit := ()
def law_holds.tw796475700287328550 : Unit := ()
def law_holds.tw8003440410463935743 : Unit := ()
def law_holds.tw8575972342014700945 : Unit := ()
def law_holds.tw8597792611491167354 : Unit := ()
def law_holds.tw8745285889728075598 : Unit := ()
def law_holds.tw895671063755369419 : Unit := ()
def law_holds.tw9071925500762943450 : Unit := ()
def law_holds.tw9514215648685535975 : Unit := ()
def law_holds.tw9649402825286304879 : Unit := ()
def law_holds.tw9863713131412757401 : Unit := ()
def law_holds.tw9960001593269369426 : Unit := ()
set_option Elab.async true
theorem law_holds : PySem.Challenge.rw_bn0001_01.Holds := by
  w_on; o_law; k_head; (case hw => w_witness2)
  k_go0; (all_goals try k_fold)
  rename World => wld
  rename Frag.In _ _ => kx0
  have kt0 := to_top (P := wld.params) kx0 rfl
  clear kx0
  k_steps
  unfold Hold LCg.FinA
  intro S h₁ tk₁ F₁ N₁ o₁
  simp only [List.nil_append, List.cons_append] at N₁
  obtain ⟨q1, q2, q3, q4, eq1, eq2, eq3, eq4, N₂, rg, nd⟩ := pack N₁ o₁ (by assumption) (by assumption) (by assumption) (by assumption) (by assumption) (by assumption) (by assumption) (by assumption) (by assumption) (by assumption) (by assumption) (by assumption) (by assumption) (by assumption) (by assumption) (by assumption)
  clear N₁
  simp only [LCg.Off1, and_true] at o₁
  obtain ⟨-, -, -, -, -, -, -, -, -, -, -, -, -, -, -, -, z4, z3, z2, z1⟩ := o₁
  dsimp only at rg
  have kS := fun q hq => (rg q hq).1
  have k4 := fun q hq => Nat.ne_of_gt (rg q hq).2.1
  have k3 := fun q hq => Nat.ne_of_gt (rg q hq).2.2.1
  have k2 := fun q hq => Nat.ne_of_gt (rg q hq).2.2.2.1
  have k1 := fun q hq => Nat.ne_of_gt (rg q hq).2.2.2.2
  k_steps
  unfold Hold
  refine main_loop (SL := _) rfl (by assumption) (by assumption) (by assumption) .nil (by repeat (first | exact .nil | apply IntsAre.cons)) (by repeat (first | exact .nil | apply IntsAre.cons)) (by assumption) (by assumption) (by assumption) (by assumption) (store_new eq1 (by assumption) (by assumption) (by assumption) (by assumption) (by assumption) (by assumption) (by assumption) rfl (by decide) (by decide)) (store_new eq2 (by assumption) (by assumption) (by assumption) (by assumption) (by assumption) (by assumption) (by assumption) rfl (by decide) (by decide)) (store_new eq3 (by assumption) (by assumption) (by assumption) (by assumption) (by assumption) (by assumption) (by assumption) rfl (by decide) (by decide)) (store_new eq4 (by assumption) (by assumption) (by assumption) (by assumption) (by assumption) (by assumption) (by assumption) rfl (by decide) (by decide)) nd rg (by assumption) ⟨ltN (by omega), ltN (by omega), ltN (by omega), ltN (by omega), neN (by omega), neN (by omega), neN (by omega), neN (by omega), ltN (by omega), ltN (by omega), ltN (by omega)⟩ (ltN (by omega)) (neN (by omega)) rfl rfl rfl ?turn ?done
  case turn =>
    (try clear N₂); (try clear rg); (try clear nd); (try clear kS); (try clear k1); (try clear k2); (try clear k3); (try clear k4); (try clear eq1); (try clear eq2); (try clear eq3); (try clear eq4); (try clear z1); (try clear z2); (try clear z3); (try clear z4)
    repeat (rename News _ _ _ _ => z; clear z)
    repeat (rename Fr _ _ _ _ => z; clear z)
    repeat (rename AllLt _ _ => z; clear z)
    repeat (rename @LT.lt Nat _ _ _ => z; clear z)
    repeat (rename Ne _ _ => z; clear z)
    repeat (rename ∀ q, q ∈ _ → _ => z; clear z)
    repeat (rename Obj.IsDictOf _ _ _ => z; clear z)
    intro s n t m₁ news₁ h tk I oI off lI J W F N
    obtain ⟨⟨R, vr, nr, rs, vw, nw, ws, vn, nn, m1, m2, m3, m4, o1, o2, o3, o4, b2, b3, b4, p1, p2, p3, p4, rfl, ir, iw, inn, hw, d1, d2, d3, d4, s1, s2, s3, s4, nd', rg', r1, hR⟩, hS, hN⟩ := J
    obtain ⟨u, rfl⟩ := known3 hS hN hR
    obtain ⟨qs, eqs⟩ : ∃ qs, qs = p1 ++ (p2 ++ (p3 ++ p4)) := ⟨_, rfl⟩
    rw [← eqs] at N rg' nd' off
    have f1 := fun q hq => Nat.ne_of_gt (rg' q hq).2.2.2.2.1
    have f2 := fun q hq => Nat.ne_of_gt (rg' q hq).2.2.2.1
    have f3 := fun q hq => Nat.ne_of_gt (rg' q hq).2.2.1
    have f4 := fun q hq => Nat.ne_of_gt (rg' q hq).2.1
    have fN := allLt_of fun q hq => (rg' q hq).2.2.2.2.2.1
    have fR := fun q hq => (rg' q hq).2.2.2.2.2.2
    obtain ⟨wa1, wa2, wa3, wa4, ws1, ws2, ws3, ws4, wb1, wb2, wb3⟩ := W
    have fW := allLt_trans fN wb2
    replace wa1 := ltN wa1; replace wa2 := ltN wa2; replace wa3 := ltN wa3; replace wa4 := ltN wa4; replace wb1 := ltN wb1; replace wb2 := ltN wb2; replace wb3 := ltN wb3; replace lI := ltN lI
    have ⟨ra1, ra2, ra3, ra4, ra5, ra6, ra7, ra8⟩ := r1
    replace ra1 := neT ra1; replace ra2 := neT ra2; replace ra3 := neT ra3; replace ra4 := neT ra4; replace ra5 := neT ra5; replace ra6 := neT ra6; replace ra7 := neT ra7; replace ra8 := neT ra8
    have ws1' := neT ws1
    have ws2' := neT ws2
    have ws3' := neT ws3
    have ws4' := neT ws4
    have oR := off _ (.tail _ (.head _))
    have rs6 : rs.length ≤ 6 := by
      obtain ⟨_, _, _, _, _, _, _, I1⟩ := s1
      exact nodup_small 6 I1.nd I1.rng
    have hz : (List.toArray vr).size ≤ sizeLine := by rw [sizeLine_eq]; simp only [List.size_toArray, ir.length]; omega
    have v0 : 0 ≤ n.fmod 12 := Int.fmod_nonneg_of_pos _ (by decide)
    have v1 : n.fmod 12 < 12 := Int.fmod_lt_of_pos _ (by decide)
    have u0 : 0 ≤ (n.fdiv 12).fmod 6 := Int.fmod_nonneg_of_pos _ (by decide)
    have u1 : (n.fdiv 12).fmod 6 < 6 := Int.fmod_lt_of_pos _ (by decide)
    refine use_inner F N rfl ?tn fun tn => ?main
    case tn =>
      intro s E m T e it oe oit t i x q os mn AA I SL R WW NN S oI oSL oS o1 o2 o3 o4 b4 va vr vw vn na nr nw nn rs ws ns vb kx tv tk hi4 hns hni hT F Kn N ia ir iw inn hw d1 d2 d3 d4 St b0 b1 k0 k1 W fr lI fa lit r9 rg qo
      obtain ⟨dx, D, O, kvs, ovs, P0, ⟨h1, h2, h3, h4, t1, t2, t3, t4, tc, tm, oD, oO, rfl, hD, hO⟩, Iv⟩ := St
      obtain ⟨u, rfl⟩ := known4 Kn.a Kn.b Kn.c Kn.d
      dsimp only [Front] at N
      have N1 := turn_order N
      clear N
      have ap : Apart [x, dx, D, O] ((e, oe) :: (it, oit) :: Front AA I SL R WW NN S _ _ _ _ (PySem.W.listOf (List.toArray va) na) oI oSL (PySem.W.listOf (List.toArray vr) nr) (PySem.W.listOf (List.toArray vw) nw) (PySem.W.listOf (List.toArray vn) nn) oS o1 o2 o3 o4 os) := apart_turn rg qo W lI lit r9
      dsimp only [Front] at ap
      have f4 := fun (p : Addr × Obj) (hp : p ∈ os) => Nat.ne_of_gt (rg p (List.mem_append_right _ hp)).2.1
      have fN : ∀ p ∈ os, p.1 ≠ NN := fun p hp => Nat.ne_of_lt (rg p (List.mem_append_right _ hp)).2.2.2.2.2.1
      have gx : Spot S NN R AA _ _ _ _ x := spot_of (rg _ (.head _))
      have gd : Spot S NN R AA _ _ _ _ dx := spot_of (rg _ (.tail _ (.head _)))
      have gD : Spot S NN R AA _ _ _ _ D := spot_of (rg _ (.tail _ (.tail _ (.head _))))
      have gO : Spot S NN R AA _ _ _ _ O := spot_of (rg _ (.tail _ (.tail _ (.tail _ (.head _)))))
      have ⟨gx1, gx2, gx3, gx4, gx5, gx6, gx7, gx8⟩ := gx
      have ⟨gd1, gd2, gd3, gd4, gd5, gd6, gd7, gd8⟩ := gd
      have ⟨gD1, gD2, gD3, gD4, gD5, gD6, gD7, gD8⟩ := gD
      have ⟨gO1, gO2, gO3, gO4, gO5, gO6, gO7, gO8⟩ := gO
      have ⟨w1, w2, w3, w4, w5, w6, w7, w8, w9, w10, w11⟩ := W
      replace w1 := ltN w1; replace w2 := ltN w2; replace w3 := ltN w3; replace w4 := ltN w4; replace w9 := ltN w9; replace w10 := ltN w10; replace w11 := ltN w11
      replace w5 := neT w5; replace w6 := neT w6; replace w7 := neT w7; replace w8 := neT w8
      have ⟨z1, z2, z3, z4, z5, z6, z7, z8⟩ := fr
      replace z1 := neT z1; replace z2 := neT z2; replace z3 := neT z3; replace z4 := neT z4; replace z5 := neT z5; replace z6 := neT z6; replace z7 := neT z7; replace z8 := neT z8
      have ⟨y1, y2, y3, y4, y5, y6, y7, y8⟩ := fa
      replace y1 := neT y1; replace y2 := neT y2; replace y3 := neT y3; replace y4 := neT y4; replace y5 := neT y5; replace y6 := neT y6; replace y7 := neT y7; replace y8 := neT y8
      have ⟨l1, l2, l3, l4⟩ := lit
      replace l1 := ltN l1; replace l2 := ltN l2; replace l3 := ltN l3; replace l4 := ltN l4; replace lI := ltN lI; replace r9 := ltN r9
      have x4 : (i : Int) + 1 ≤ 4 := by omega
      have l6 : rs.length ≤ 6 := nodup_small 6 Iv.nd Iv.rng
      have lm := Iv.len.1
      have lm0 := Iv.len.2.1
      have lm4 := Iv.len.2.2.1
      have rng := Iv.rng
      have hit : (valueAt kvs kx).isSome = tHit rs kx mn := Iv.hitAt
      obtain rfl : mn = ns.getD ((i : Int)).toNat 0 := by rw [Int.toNat_natCast, List.getD_eq_getElem?_getD, hni]; rfl
      k_steps
      unfold Hold
      refine' comp_store ⟨?k1, ?k2, ?k3, ?k4, ?k5, ?k6⟩ ?k9 ?k7 ?ap rfl ?k8 rfl ?k10 ?k11 ?z ?k12 ?k13 ?k14 ?k15 ?k16 ?k17 ?k18 ?k19 ?k20 ?k21 ?k22 ?ev ?_
      (case k7 => k_asm)
      (case k8 => k_asm); (case k9 => assumption)
      (case ap => first | assumption | (refine' apart_map ?hh ?ee; (case hh => assumption); (case ee => rfl)))
      (case k1 => k_asm); (case k2 => k_asm); (case k3 => rfl); (case k4 => rfl); (case k5 => rfl); (case k6 => k_room); (case k10 => assumption); (case k11 => assumption)
      case z => assumption
      case k12 => k_asm
      case k13 => k_is
      case k14 => k_is
      case k15 => with_unfolding_all rfl
      case k16 => decide
      case k17 => rfl
      case k18 => decide
      case k19 => rfl
      case k20 => exact fun _ => rfl
      case k21 => exact fun _ => rfl
      case k22 => decide
      case ev => k_steps
      intro h' tk' G' ys' h1' h2' h3' h4' t1' t2' t3' t4' tc' tm' oD' oO' F' N' hD' hO' hi'
      k_steps
      refine' ⟨⟨rfl, _, _, _, _, _, _, _, _, rfl, ?kf, ?kk, turn_back ?kn, ?ki, ?kd, ?kq, ⟨dx, D, O, _, _, P0, ⟨_, _, _, _, _, _, _, _, _, _, _, _, ?kr, ?khd, ?kho⟩, ?kiv⟩⟩⟩
      case kf => assumption
      case kk => exact ⟨rfl, rfl, rfl, rfl⟩
      case kn => assumption
      case ki => assumption
      case kd => assumption
      case kr => rfl
      case kq => rfl
      case khd => assumption
      case kho => assumption
      case kiv => assumption
    case main =>
      k_steps
      rotate_left
      · unfold Hold
        refine filter_turns (fun j => decide (j ≠ (n.fdiv 12).fmod 6 ∨ 9 < n.fmod 12)) (fun _ => rfl) (fun _ => rfl) (by decide) ir ?kS ?test ?fin _ 0 [] (Nat.zero_add _) .nil
        case kS => exact .inr ⟨_, .tail _ (.tail _ (.tail _ (.head _))), rfl, _, rfl⟩
        case test =>
          intro k t' I' oI' C' oC D' ys m₂ h' tk' E' hC hx F' N'
          k_steps
          all_goals first | exact (decide_eq_true (by omega)).symm | exact (decide_eq_false (by omega)).symm
        case fin =>
          intro ys hy
          unfold LCg.FinA
          intro AA h' tk' F' N' o'
          have oq : ∀ q ∈ qs, q.1 ≠ AA := fun q hq => offMem o' q (by repeat (first | exact hq | refine List.Mem.tail _ ?_))
          simp only [LCg.Off1, and_true] at o'
          k_steps
          · unfold Hold
            subst eqs
            have fa := free_off o'
            refine inner_loop (vb := n.fmod 12) (kx := (n.fdiv 12).fmod 6) (ws := ws) (q1 := p1) (q2 := p2) (q3 := p3) (q4 := p4) tn ⟨ia_app hy (by assumption), ir, iw, hw, d1, by assumption, by assumption, v0, v1, u0, u1, ⟨wa1, wa2, wa3, wa4, ws1, ws2, ws3, ws4, wb1, wb2, wb3⟩, r1, lI, fa⟩ rfl ⟨rfl, rfl, rfl, rfl⟩ (by assumption) (front_of (by assumption)) inn d4 (s1.weak fun _ _ => trivial) (s2.weak fun _ _ => trivial) (s3.weak fun _ _ => trivial) (s4.weak fun _ _ => trivial) ⟨fun z hz => ⟨(rg' z hz).1, (rg' z hz).2.1, (rg' z hz).2.2.1, (rg' z hz).2.2.2.1, (rg' z hz).2.2.2.2.1, (rg' z hz).2.2.2.2.2.1, (rg' z hz).2.2.2.2.2.2, oq z hz⟩, nd'⟩ ?_
            intro h'' tk'' m' vn' nn' o4' b4' e1 e2 e3 e4 F'' Kn' N'' inn' d4' t1 t2 t3 t4 ly'
            obtain ⟨u', rfl⟩ := known4 Kn'.a Kn'.b Kn'.c Kn'.d
            dsimp only [Front] at N''
            k_steps
            exact turn_done ⟨wa1, wa2, wa3, wa4, ws1, ws2, ws3, ws4, wb1, wb2, wb3⟩ lI o'.2.1 fa ly' rfl rfl rfl (by assumption) (by assumption) (ia_app hy (by assumption)) iw inn' hw d1 (by assumption) (by assumption) d4' t1 t2 t3 t4
          · unfold Hold
            subst eqs
            have fa := free_off o'
            refine inner_loop (vb := n.fmod 12) (kx := (n.fdiv 12).fmod 6) (ws := ws) (q1 := p1) (q2 := p2) (q3 := p3) (q4 := p4) tn ⟨ia_no hy (by first | assumption | omega), ir, iw, hw, d1, by assumption, by assumption, v0, v1, u0, u1, ⟨wa1, wa2, wa3, wa4, ws1, ws2, ws3, ws4, wb1, wb2, wb3⟩, r1, lI, fa⟩ rfl ⟨rfl, rfl, rfl, rfl⟩ (by assumption) (front_of (by assumption)) inn d4 (s1.weak fun _ _ => trivial) (s2.weak fun _ _ => trivial) (s3.weak fun _ _ => trivial) (s4.weak fun _ _ => trivial) ⟨fun z hz => ⟨(rg' z hz).1, (rg' z hz).2.1, (rg' z hz).2.2.1, (rg' z hz).2.2.2.1, (rg' z hz).2.2.2.2.1, (rg' z hz).2.2.2.2.2.1, (rg' z hz).2.2.2.2.2.2, oq z hz⟩, nd'⟩ ?_
            intro h'' tk'' m' vn' nn' o4' b4' e1 e2 e3 e4 F'' Kn' N'' inn' d4' t1 t2 t3 t4 ly'
            obtain ⟨u', rfl⟩ := known4 Kn'.a Kn'.b Kn'.c Kn'.d
            dsimp only [Front] at N''
            k_steps
            exact turn_done ⟨wa1, wa2, wa3, wa4, ws1, ws2, ws3, ws4, wb1, wb2, wb3⟩ lI o'.2.1 fa ly' rfl rfl rfl (by assumption) (by assumption) (ia_no hy (by first | assumption | omega)) iw inn' hw d1 (by assumption) (by assumption) d4' t1 t2 t3 t4
      · unfold Hold
        refine filter_turns (fun j => decide (j ≠ (n.fdiv 12).fmod 6 ∨ 9 < n.fmod 12)) (fun _ => rfl) (fun _ => rfl) (by decide) ir ?kS ?test ?fin _ 0 [] (Nat.zero_add _) .nil
        case kS => exact .inr ⟨_, .tail _ (.tail _ (.tail _ (.head _))), rfl, _, rfl⟩
        case test =>
          intro k t' I' oI' C' oC D' ys m₂ h' tk' E' hC hx F' N'
          k_steps
          all_goals first | exact (decide_eq_true (by omega)).symm | exact (decide_eq_false (by omega)).symm
        case fin =>
          intro ys hy
          unfold LCg.FinA
          intro AA h' tk' F' N' o'
          have oq : ∀ q ∈ qs, q.1 ≠ AA := fun q hq => offMem o' q (by repeat (first | exact hq | refine List.Mem.tail _ ?_))
          simp only [LCg.Off1, and_true] at o'
          k_steps
          · unfold Hold
            subst eqs
            have fa := free_off o'
            refine inner_loop (vb := n.fmod 12) (kx := (n.fdiv 12).fmod 6) (ws := ws.set ((n.fdiv 12).fmod 6).toNat n) (q1 := p1) (q2 := p2) (q3 := p3) (q4 := p4) tn ⟨ia_app hy (by omega), ir, (by assumption), (by rw [List.length_set]; exact hw), d1, by assumption, by assumption, v0, v1, u0, u1, ⟨wa1, wa2, wa3, wa4, ws1, ws2, ws3, ws4, wb1, wb2, wb3⟩, r1, lI, fa⟩ rfl ⟨rfl, rfl, rfl, rfl⟩ (by assumption) (front_of (by assumption)) inn d4 (s1.turned u0 (by assumption)) (s2.turned u0 (by assumption)) (s3.turned u0 (by assumption)) (s4.turned u0 (by assumption)) ⟨fun z hz => ⟨(rg' z hz).1, (rg' z hz).2.1, (rg' z hz).2.2.1, (rg' z hz).2.2.2.1, (rg' z hz).2.2.2.2.1, (rg' z hz).2.2.2.2.2.1, (rg' z hz).2.2.2.2.2.2, oq z hz⟩, nd'⟩ ?_
            intro h'' tk'' m' vn' nn' o4' b4' e1 e2 e3 e4 F'' Kn' N'' inn' d4' t1 t2 t3 t4 ly'
            obtain ⟨u', rfl⟩ := known4 Kn'.a Kn'.b Kn'.c Kn'.d
            dsimp only [Front] at N''
            k_steps
            exact turn_done ⟨wa1, wa2, wa3, wa4, ws1, ws2, ws3, ws4, wb1, wb2, wb3⟩ lI o'.2.1 fa ly' rfl rfl rfl (by assumption) (by assumption) (ia_app hy (by omega)) (by assumption) inn' (by rw [List.length_set]; exact hw) d1 (by assumption) (by assumption) d4' t1 t2 t3 t4
  case done =>
    (try clear N₂); (try clear rg); (try clear nd); (try clear kS); (try clear k1); (try clear k2); (try clear k3); (try clear k4); (try clear eq1); (try clear eq2); (try clear eq3); (try clear eq4); (try clear z1); (try clear z2); (try clear z3); (try clear z4)
    repeat (rename News _ _ _ _ => z; clear z)
    repeat (rename Fr _ _ _ _ => z; clear z)
    repeat (rename AllLt _ _ => z; clear z)
    repeat (rename @LT.lt Nat _ _ _ => z; clear z)
    repeat (rename Ne _ _ => z; clear z)
    repeat (rename ∀ q, q ∈ _ → _ => z; clear z)
    repeat (rename Obj.IsDictOf _ _ _ => z; clear z)
    intro m₁ news₁ h tk J W F N
    obtain ⟨⟨R, vr, nr, rs, vw, nw, ws, vn, nn, m1, m2, m3, m4, o1, o2, o3, o4, b2, b3, b4, p1, p2, p3, p4, rfl, ir, iw, inn, hw, d1, d2, d3, d4, s1, s2, s3, s4, nd', rg', r1, hR⟩, hS, hN⟩ := J
    obtain ⟨u, rfl⟩ := known3 hS hN hR
    dsimp only
    refine use_last F N rfl ?tn fun tn => ?main
    case tn =>
      intro s E m T e it oe oit t i x q os mn SL R WW NN S oSL oS o1 o2 o3 o4 b4 vr vw vn nr nw nn rs ws ns hi4 hns hni hT F Kn N ir iw inn hw d1 d4 St W fr lit r9 rg qo
      obtain ⟨dx, D, O, kvs, ovs, P0, ⟨h1, h2, h3, h4, t1, t2, t3, t4, tc, tm, oD, oO, rfl, hD, hO⟩, Iv⟩ := St
      obtain ⟨u, rfl⟩ := known3 Kn.a Kn.b Kn.c
      dsimp only [Back] at N
      have N1 := turn_orderL N
      clear N
      have ap : Apart [x, dx, D, O] ((e, oe) :: (it, oit) :: Back SL R WW NN S _ _ _ _ oSL (PySem.W.listOf (List.toArray vr) nr) (PySem.W.listOf (List.toArray vw) nw) (PySem.W.listOf (List.toArray vn) nn) oS o1 o2 o3 o4 os) := apart_turnL rg qo W lit r9
      dsimp only [Back] at ap
      have f4 := fun (p : Addr × Obj) (hp : p ∈ os) => Nat.ne_of_gt (rg p (List.mem_append_right _ hp)).2.1
      have gx : SpotN S NN R _ _ _ _ x := spot_ofL (rg _ (.head _))
      have gd : SpotN S NN R _ _ _ _ dx := spot_ofL (rg _ (.tail _ (.head _)))
      have gD : SpotN S NN R _ _ _ _ D := spot_ofL (rg _ (.tail _ (.tail _ (.head _))))
      have gO : SpotN S NN R _ _ _ _ O := spot_ofL (rg _ (.tail _ (.tail _ (.tail _ (.head _)))))
      have ⟨gx1, gx2, gx3, gx4, gx5, gx6, gx7⟩ := gx
      have ⟨gd1, gd2, gd3, gd4, gd5, gd6, gd7⟩ := gd
      have ⟨gD1, gD2, gD3, gD4, gD5, gD6, gD7⟩ := gD
      have ⟨gO1, gO2, gO3, gO4, gO5, gO6, gO7⟩ := gO
      have ⟨w1, w2, w3, w4, w5, w6, w7, w8, w9, w10, w11⟩ := W
      replace w1 := ltN w1; replace w2 := ltN w2; replace w3 := ltN w3; replace w4 := ltN w4; replace w9 := ltN w9; replace w10 := ltN w10; replace w11 := ltN w11
      replace w5 := neT w5; replace w6 := neT w6; replace w7 := neT w7; replace w8 := neT w8
      have ⟨z1, z2, z3, z4, z5, z6, z7, z8⟩ := fr
      replace z1 := neT z1; replace z2 := neT z2; replace z3 := neT z3; replace z4 := neT z4; replace z5 := neT z5; replace z6 := neT z6; replace z7 := neT z7; replace z8 := neT z8
      have ⟨l1, l2⟩ := lit
      replace l1 := ltN l1; replace l2 := ltN l2; replace r9 := ltN r9
      have x4 : (i : Int) + 1 ≤ 4 := by omega
      have l6 : rs.length ≤ 6 := nodup_small 6 Iv.nd Iv.rng
      have lm := Iv.len.1
      have lm0 := Iv.len.2.1
      have lm4 := Iv.len.2.2.1
      have rng := Iv.rng
      obtain rfl : mn = ns.getD ((i : Int)).toNat 0 := by rw [Int.toNat_natCast, List.getD_eq_getElem?_getD, hni]; rfl
      k_steps
      unfold Hold
      refine comp_re16 ?_
      refine' pop_turns (os := os) ⟨?k1, ?k2, ?k3, ?k4, ?k5, ?k6⟩ P0 rfl ?elem 6 0 [] [] [] _ kvs ovs h1 h2 h3 h4 t1 t2 t3 t4 tc tm oD oO .nil Iv hD hO ?ap ?fin
      case k1 => k_asm
      case k2 => k_asm
      case k3 => rfl
      case k4 => rfl
      case k5 => rfl
      case k6 => k_room
      case ap => exact apart_cons (ltN (by omega)) (ltN (by omega)) (ltN (by omega)) (ltN (by omega)) (apart_map ap rfl)
      case elem =>
        intro I oI Cc oC D' ys m₂ h' tk' E' Q' tl a b c d hC F' N' hcall
        simp only [List.cons_append, List.nil_append] at N'
        k_steps
        unfold Hold
        exact hcall _ _ _ _
      case fin =>
        intro ys exs a b c d hA
        unfold LCg.FinA
        intro G h' tk' F' N' o'
        simp only [List.cons_append, List.nil_append] at N'
        have N2 := drop_quad N'
        clear N' o'
        have hl1 : ys.length = 6 := hA.length
        k_steps
        unfold Hold
        refine LCg.ListComp_U (F₀ := by k_asm) (by with_unfolding_all rfl) (by decide) (by rfl) (by decide) (by rfl) ?_
        lcg_toSrc
        k_steps
        unfold Hold
        refine comp_lit13 ?_
        refine pair_turns (ws := ws) (os := exs ++ os) (by assumption) (fun tl => .inr ⟨_, .tail _ (.head _), rfl, _, rfl⟩) ?elem2 ?fin2 _ 0 [] [] (Nat.zero_add _) .nil
        case elem2 =>
          intro k t' I oI Cc oC D' ys2 m₂ h' tk' E' tl hk hC hx F' N'
          simp only [List.cons_append, List.nil_append] at N'
          have kr := rng k (List.mem_of_mem_drop hk)
          obtain ⟨k0, k1⟩ := kr
          k_steps
          refine' ⟨⟨_, _, _, _, _, _, rfl, rfl, ?kf, ?kn, ?l1, ?l2, ?l3⟩⟩
          case kf => assumption
          case kn => assumption
          case l1 => exact ltN (by omega)
          case l2 => exact ltN (by omega)
          case l3 => exact ltN (by omega)
        case fin2 =>
          intro ys2 exs2 hA2
          unfold LCg.FinE
          intro G2 h' tk' F' N' o'
          simp only [List.cons_append, List.nil_append] at N'
          clear o'
          have hl2 := hA2.length
          simp only [List.length_map] at hl2
          k_steps
          unfold Hold
          refine' ne_anss (as := pops rs ws 6 (ns.getD ((i : Int)).toNat 0)) ?ka ?kb ?kh1 ?kh2 pairs_plain ?ku ?_
          case ka => is_list
          case kb => is_list
          case ku => ke_room
          case kh1 => exact hA.up fun q hq => ((by assumption : News _ _ _ _) q (by repeat (first | exact List.mem_append_right _ (List.mem_append_left _ hq) | refine List.Mem.tail _ ?_))).1
          case kh2 =>
            rw [pops_parts lm0 (by omega) lm]
            exact AnssH.append (AnssH.lost _) (hA2.up fun q hq => ((by assumption : News _ _ _ _) q (by repeat (first | exact List.mem_append_left _ hq | refine List.Mem.tail _ ?_))).1)
          k_steps
          refine' ⟨⟨rfl, _, _, _, _, _, rfl, ?kf, ?kk, ?kn, ?kd⟩⟩
          case kf => assumption
          case kk => exact ⟨rfl, rfl, rfl⟩
          case kn => first | exact last_back (by assumption) | exact last_back (drop1 (by assumption)) | exact last_back (drop1 (drop1 (by assumption))) | exact last_back (drop1 (drop1 (drop1 (by assumption)))) | exact last_back (drop1 (drop1 (drop1 (drop1 (by assumption))))) | exact last_back (drop1 (drop1 (drop1 (drop1 (drop1 (by assumption)))))) | exact last_back (drop1 (drop1 (drop1 (drop1 (drop1 (drop1 (by assumption)))))))
          case kd => assumption
    case main =>
      k_steps
      unfold Hold
      refine last_loop (q1 := p1) (q2 := p2) (q3 := p3) (q4 := p4) tn ⟨ir, iw, inn, hw, d1, W, r1⟩ rfl ⟨rfl, rfl, rfl⟩ (by assumption) (by assumption) d4 s1 s2 s3 s4 rg' nd' ?_
      intro h' tk' m' F'
      k_steps
      all_goals (dsimp (config := { zetaDelta := true }) only)
      k_steps
set_option Elab.async false
end
end Mine
theorem PySem.Challenge.cw_bn0001_01_holds : PySem.Challenge.rw_bn0001_01.Holds := by
  exact Mine.law_holds
