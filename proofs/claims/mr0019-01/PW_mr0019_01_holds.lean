import PyProof.Rows.All
import Wide.All
import OpenK.AllK
import Wide.FinOn
import PySem.Challenge.RW_mr0019_01
open PySem PySem.W PyProof.Rows PySem.Calls
set_option Elab.async false
set_option maxRecDepth 100000
namespace Mine

/-- the heap's places that a lambda's making may turn: each with the qualified name of what is kept there -/
def tq : List (Addr × Str) := [(44, Str.ofString "_law_rising.<locals>.<lambda>"), (51, Str.ofString "_law_falling.<locals>.<lambda>"), (65, Str.ofString "law.<locals>.<lambda>")]
def IsTb (a : Addr) : Prop := a = 44 ∨ a = 51 ∨ a = 65

def TabAt (h : Heap) (P : Addr) (q : Str) : Prop :=
  ∃ ps : Array Value, h.get? P = some (tabObj ps) ∧ TriplesOk ps.toList ∧
    ∀ pos cv, codeAmong pos ps.toList = some cv → ∃ c, cv = .ref c ∧ ¬ IsTb c ∧ h.CodeRec (.ref c) q

structure Wd (G h : Heap) : Prop where
  st : ∀ b o, G.get? b = some o → h.get? b = some o
  sz : G.objs.size ≤ h.objs.size
  tb : ∀ p ∈ tq, TabAt h p.1 p.2

def Ext (h h' : Heap) : Prop := ∀ b o, ¬ IsTb b → h.get? b = some o → h'.get? b = some o

theorem Ext.refl (h : Heap) : Ext h h := fun _ _ _ e => e
theorem Ext.trans {a b c : Heap} (x : Ext a b) (y : Ext b c) : Ext a c := fun p o n e => y p o n (x p o n e)
theorem Ext.of {h h' : Heap} (k : ∀ b o, h.get? b = some o → h'.get? b = some o) : Ext h h' := fun b o _ e => k b o e

/-- no code record -/
def NoCode (o : Obj) : Prop := ∀ vs q t, o.data = .fields vs → vs[1]? ≠ some (.str q t)

theorem tq_isTb {p : Addr × Str} (h : p ∈ tq) : IsTb p.1 := by
  simp only [tq, List.mem_cons, List.not_mem_nil, or_false] at h
  rcases h with rfl | rfl | rfl
  · exact .inl rfl
  · exact .inr (.inl rfl)
  · exact .inr (.inr rfl)

theorem TabAt.but {h h' : Heap} {P : Addr} {q : Str} {a : Addr} {oa : Obj} (x : TabAt h P q) (hk : ∀ b o, b ≠ a → h.get? b = some o → h'.get? b = some o) (ha : h.get? a = some oa) (hn : NoCode oa) (hPa : P ≠ a) : TabAt h' P q := by
  obtain ⟨ps, e, t, k⟩ := x
  refine ⟨ps, hk _ _ hPa e, t, fun pos cv hc => ?_⟩
  obtain ⟨c, e1, e2, c', o, vs, tt, q1, q2, q3, q4⟩ := k pos cv hc
  refine ⟨c, e1, e2, c', o, vs, tt, q1, hk _ _ (fun e => ?_) q2, q3, q4⟩
  subst e
  rw [ha] at q2; cases q2
  exact hn _ _ _ q3 q4

theorem TabAt.keeps {h h' : Heap} {P : Addr} {q : Str} (x : TabAt h P q) (hk : ∀ b o, h.get? b = some o → h'.get? b = some o) : TabAt h' P q := by
  obtain ⟨ps, e, t, k⟩ := x
  refine ⟨ps, hk _ _ e, t, fun pos cv hc => ?_⟩
  obtain ⟨c, e1, e2, r⟩ := k pos cv hc
  exact ⟨c, e1, e2, r.keeps hk⟩

theorem size_le_of {h h' : Heap} {a : Addr} {o : Obj} {n : Nat} (hn : n ≤ a) (e : h'.get? a = some o) : n ≤ h'.objs.size := Nat.le_of_lt (Nat.lt_of_le_of_lt hn (Heap.lt_size e))

theorem Wd.but {G h h' : Heap} {a : Addr} {oa : Obj} (x : Wd G h) (hk : ∀ b o, b ≠ a → h.get? b = some o → h'.get? b = some o) (ha : h.get? a = some oa) (hn : NoCode oa) (hG : G.objs.size ≤ a) (hT : ¬ IsTb a) (hz : G.objs.size ≤ h'.objs.size) : Wd G h' where
  st := fun b o e => hk b o (Nat.ne_of_lt (Nat.lt_of_lt_of_le (Heap.lt_size e) hG)) (x.st b o e)
  sz := hz
  tb := fun p hp => (x.tb p hp).but hk ha hn (fun e => hT (e ▸ tq_isTb hp))
theorem Wd.keeps {G h h' : Heap} (x : Wd G h) (hk : ∀ b o, h.get? b = some o → h'.get? b = some o) (hz : G.objs.size ≤ h'.objs.size) : Wd G h' where
  st := fun b o e => hk b o (x.st b o e)
  sz := hz
  tb := fun p hp => (x.tb p hp).keeps hk

/-- a frame at work: h₀ the heap at the call, L its locals, m what they hold, own what it has made -/
structure Fm (G h₀ : Heap) (L : Addr) (m : Str → Option Value) (own : List (Addr × Obj)) (h : Heap) : Prop where
  ns : h.Ns L m
  keep : Ext h₀ h
  above : h₀.objs.size ≤ L
  base : G.objs.size ≤ L
  big : 65 < L
  wd : Wd G h
  nw : ∀ p ∈ own, h.get? p.1 = some p.2 ∧ L < p.1

section
variable {G h₀ h h' : Heap} {L : Addr} {m m' : Str → Option Value} {own own' : List (Addr × Obj)}
theorem notTb {a : Addr} (h : 65 < a) : ¬ IsTb a := by
  intro x; rcases x with e | e | e <;> (rw [e] at h; exact absurd h (by decide))
theorem Fm.get {a : Addr} {o : Obj} (F : Fm G h₀ L m own h) (hm : (a, o) ∈ own) : h.get? a = some o := (F.nw _ hm).1
theorem Fm.old {a : Addr} {o : Obj} (F : Fm G h₀ L m own h) (e : h₀.get? a = some o) (hT : ¬ IsTb a) : h.get? a = some o := F.keep _ _ hT e
theorem Fm.top {a : Addr} {o : Obj} (F : Fm G h₀ L m own h) (e : G.get? a = some o) : h.get? a = some o := F.wd.st _ _ e
theorem Fm.sub (F : Fm G h₀ L m own h) (k : ∀ p ∈ own', p ∈ own) : Fm G h₀ L m own' h := { F with nw := fun p hp => F.nw p (k p hp) }
theorem Fm.store (F : Fm G h₀ L m own h) (hn : h'.Ns L m') (hs : Heap.SameBut L h h') : Fm G h₀ L m' own h' := by
  obtain ⟨oL, es, ep, hL, hd, _⟩ := id F.ns
  exact { ns := hn
          keep := fun b o n e => (hs.2 b (Nat.ne_of_lt (Nat.lt_of_lt_of_le (Heap.lt_size e) F.above))).trans (F.keep b o n e)
          above := F.above
          base := F.base
          big := F.big
          wd := F.wd.but (fun b o hb e => hs.extBut b o hb e) hL (fun vs q t e => by rw [hd] at e; cases e) F.base (notTb F.big) (by rw [hs.1]; exact F.wd.sz)
          nw := fun p hp => ⟨(hs.2 p.1 (Nat.ne_of_gt (F.nw p hp).2)).trans (F.nw p hp).1, (F.nw p hp).2⟩ }
theorem Fm.ext (F : Fm G h₀ L m own h) (k : ∀ b o, h.get? b = some o → h'.get? b = some o) : Fm G h₀ L m own h' where
  ns := F.ns.keeps k
  keep := fun b o n e => k b o (F.keep b o n e)
  above := F.above
  base := F.base
  big := F.big
  wd := F.wd.keeps k (Nat.le_of_lt (Nat.lt_of_le_of_lt F.base (F.ns.keeps k).lt))
  nw := fun p hp => ⟨k _ _ (F.nw p hp).1, (F.nw p hp).2⟩
theorem Fm.push (F : Fm G h₀ L m own h) (o : Obj) (hf : o.isFreed = false := by rfl) : Fm G h₀ L m ((h.objs.size, o) :: own) (h.push o) :=
  let F' := F.ext (h' := h.push o) (fun _ _ e => Heap.get?_push_of_some _ e)
  { F' with nw := fun p hp => (List.mem_cons.mp hp).elim (fun e => by subst e; exact ⟨Heap.get?_push_size _ hf, F.ns.lt⟩) (fun hp => F'.nw p hp) }
theorem Fm.call (F : Fm G h₀ L m own h) (x : Ext h h') (W : Wd G h') : Fm G h₀ L m own h' where
  ns := let ⟨o, es, ep, e, r⟩ := F.ns; ⟨o, es, ep, x _ _ (notTb F.big) e, r⟩
  keep := F.keep.trans x
  above := F.above
  base := F.base
  big := F.big
  wd := W
  nw := fun p hp => ⟨x _ _ (notTb (Nat.lt_trans F.big (F.nw p hp).2)) (F.nw p hp).1, (F.nw p hp).2⟩
/-- all but a made object stays -/
theorem Fm.but {a : Addr} {o : Obj} {rest : List (Addr × Obj)} (F : Fm G h₀ L m ((a, o) :: rest) h) (k : ∀ b ob, b ≠ a → h.get? b = some ob → h'.get? b = some ob) (hr : ∀ p ∈ rest, p.1 ≠ a) (hc : NoCode o) : Fm G h₀ L m rest h' := by
  have ha := F.nw _ (.head _)
  have hns : h'.Ns L m := let ⟨o, es, ep, e, r⟩ := F.ns; ⟨o, es, ep, k _ _ (Nat.ne_of_lt ha.2) e, r⟩
  exact { ns := hns
          keep := fun b ob n e => k b ob (Nat.ne_of_lt (Nat.lt_trans (Nat.lt_of_lt_of_le (Heap.lt_size e) F.above) ha.2)) (F.keep b ob n e)
          above := F.above
          base := F.base
          big := F.big
          wd := F.wd.but k ha.1 hc (Nat.le_of_lt (Nat.lt_of_le_of_lt F.base ha.2)) (notTb (Nat.lt_trans F.big ha.2)) (Nat.le_of_lt (Nat.lt_of_le_of_lt F.base hns.lt))
          nw := fun p hp => ⟨k _ _ (hr p hp) (F.nw p (.tail _ hp)).1, (F.nw p (.tail _ hp)).2⟩ }
theorem Fm.upd {a : Addr} {o o' : Obj} {rest : List (Addr × Obj)} (F : Fm G h₀ L m ((a, o) :: rest) h) (k : ∀ b ob, b ≠ a → h.get? b = some ob → h'.get? b = some ob) (hr : ∀ p ∈ rest, p.1 ≠ a) (hc : NoCode o) (e : h'.get? a = some o') : Fm G h₀ L m ((a, o') :: rest) h' :=
  let F' := F.but k hr hc
  { F' with nw := fun p hp => (List.mem_cons.mp hp).elim (fun q => by subst q; exact ⟨e, (F.nw _ (.head _)).2⟩) (fun hp => F'.nw p hp) }
end

structure Room (A : Around) (n : Nat) : Prop where
  hd : A.handled = none
  dp : A.depth + n < recursionLimit
  un : A.units + 8 * n + 64 < cLine

/-- what a call does: it ends, it keeps, and its value and heap are as Post says -/
def Does (prog : Program) (w : World) (G h₁ : Heap) (n : Nat) (f : Value) (args : List Value) (Post : Heap → Value → Heap → Prop) : Prop :=
  ∀ (A : Around) (s : Shared) (Q E : Value → Shared → Prop), Ext h₁ s.heap → Wd G s.heap → Room A n →
    (∀ v h' tk, Ext s.heap h' → Wd G h' → Post s.heap v h' → Q v { s with heap := h', toks := tk }) →
    wpAny (model prog w) A (call f args) Q E s

def nth : List Stmt → Nat → List Stmt
  | s :: _, 0 => [s]
  | _ :: r, n + 1 => nth r n
  | [], _ => []
def theDef (n : Nat) : List Stmt := nth PySem.Challenge.pw_mr0019_01.main.body n
def fnParams (n : Nat) : Arguments := match theDef n with
  | [.FunctionDef (args := a) ..] => a
  | _ => { posonlyargs := [], args := [], vararg := none, kwonlyargs := [], kw_defaults := [], kwarg := none, defaults := [] }
def fnBody (n : Nat) : List Stmt := match theDef n with
  | [.FunctionDef (body := b) ..] => b
  | _ => []
def fnScope (n : Nat) : Scope := match theDef n with
  | [.FunctionDef (scope := b) ..] => b
  | _ => default
/-- the def of that number stands at f, its code at c -/
def FnAt (G : Heap) (n : Nat) (q : Str) (f c : Addr) : Prop :=
  ∃ pm, G.get? f = some { cls := .type "function", data := .func (fnX q q (fnParams n) (fnBody n) (fnScope n) [] .none .none .none pm none (.ref c) .none) } ∧ G.CodeRec (.ref c) q

theorem Room.deeper {A : Around} {n : Nat} {env : Env} (R : Room A (n + 1)) : Room (A.deeper env) n :=
  ⟨R.hd, by have := R.dp; rw [depth_deeper]; omega, by have := R.un; rw [units_deeper]; omega⟩
theorem Room.le {A : Around} {n k : Nat} (R : Room A n) (h : k ≤ n) : Room A k := ⟨R.hd, by have := R.dp; omega, by have := R.un; omega⟩

section
variable {prog : Program} {w : World} {A : Around} {s : Shared} {G : Heap}

/-- into a plain def -/
theorem enter {n k : Nat} {q : Str} {f c : Addr} {vals : List Value} {binds : List (Str × Value)} {Q E : Value → Shared → Prop}
    (hf : FnAt G n q f c) (hlim : G.NoLimit) (hbig : 65 < G.objs.size) (W : Wd G s.heap) (R : Room A (k + 1))
    (hbind : ∀ pm, bindArgs (fnX q q (fnParams n) (fnBody n) (fnScope n) [] .none .none .none pm none (.ref c) .none) ⟨vals, []⟩ = pure binds)
    (hcell : ∀ x ∈ (fnScope n).names, x.2 ≠ .cell) (hloc : ∀ x ∈ binds, (fnScope n).names.lookup x.1 = some .local)
    (hco : (fnScope n).isCoroutine = false) (hgen : (fnScope n).isGenerator = false) (hk : (fnScope n).kind = .function)
    (h : ∀ h₁, Fm G s.heap s.heap.objs.size (fun x => binds.reverse.lookup x) [] h₁ → Room (A.deeper (envX q (fnScope n) s.heap.objs.size f (.ref c) [])) k →
      wpAny (model prog w) (A.deeper (envX q (fnScope n) s.heap.objs.size f (.ref c) [])) (execs (fnBody n) (envX q (fnScope n) s.heap.objs.size f (.ref c) []))
        (fun fl s' => Q (match fl with | .ret v => v | _ => .none) s') (fun _ _ => False) { s with heap := h₁, toks := s.toks + binds.length }) :
    wpAny (model prog w) A (call (.ref f) vals) Q E s := by
  obtain ⟨pm, e1, e2⟩ := hf
  have hroom : A.depth < recursionLimit := by have := R.dp; omega
  refine wpAny_call (codeAny_call_def hroom (W.st _ _ e1) rfl (hlim.keeps W.st) (e2.keeps W.st) rfl (BindsTo.of_eq (hbind pm)) hcell hloc (fun h₁ hns hk₁ => ?_) hco hgen hk)
  refine wpAny_mono (h h₁ ?_ R.deeper) (fun fl s' x => x) (fun _ _ x => x.elim)
  exact { ns := hns, keep := Ext.of hk₁, above := Nat.le_refl _, base := W.sz, big := Nat.lt_of_lt_of_le hbig W.sz, wd := W.keeps hk₁ (Nat.le_trans W.sz (Nat.le_of_lt hns.lt)), nw := fun _ hp => nomatch hp }
end

/-- what the top has left -/
structure Bs (G : Heap) (mg mb : Str → Option Value) : Prop where
  g : G.Ns mainGlobals mg
  b : G.Ns builtinsNs mb
  lim : G.NoLimit
  bg : 65 < G.objs.size
  bm : ∃ bm ob, mg "__builtins__" = some (.ref bm) ∧ bm ≠ builtinsNs ∧ G.get? bm = some ob ∧ ob.cls = .type "module" ∧ ob.dict = some builtinsNs ∧ ob.data = .plain
  hid : ∀ p ∈ tq, G.get? p.1 = none
  cR : CodeHd G 48 44
  cF : CodeHd G 55 51
  cL : CodeHd G 67 65
  fS : FnAt G 1 (Str.ofString "_split_list") 21 20
  fT : FnAt G 5 (Str.ofString "ISTERMINAL") 28 27
  fN : FnAt G 6 (Str.ofString "ISNONTERMINAL") 35 34
  fE : FnAt G 7 (Str.ofString "ISEOF") 42 41
  fR : FnAt G 9 (Str.ofString "_law_rising") 49 48
  fF : FnAt G 10 (Str.ofString "_law_falling") 56 55
  fP : FnAt G 11 (Str.ofString "_law_placed") 63 62
  nS : mg (Str.ofString "_split_list") = some (.ref 21)
  nT : mg (Str.ofString "ISTERMINAL") = some (.ref 28)
  nN : mg (Str.ofString "ISNONTERMINAL") = some (.ref 35)
  nE : mg (Str.ofString "ISEOF") = some (.ref 42)
  nR : mg (Str.ofString "_law_rising") = some (.ref 49)
  nF : mg (Str.ofString "_law_falling") = some (.ref 56)
  nP : mg (Str.ofString "_law_placed") = some (.ref 63)
  nEnd : ∃ t, mg (Str.ofString "ENDMARKER") = some (.int 0 t)
  nOff : ∃ t, mg (Str.ofString "NT_OFFSET") = some (.int 256 t)
  xLen : mg (Str.ofString "len") = none
  xRange : mg (Str.ofString "range") = none
  xList : mg (Str.ofString "list") = none
  bLen : mb (Str.ofString "len") = some (.builtin "len")
  bRange : mb (Str.ofString "range") = some (.type "range")
  bList : mb (Str.ofString "list") = some (.type "list")

section
variable {M : Model} {A : Around} {E : Value → Shared → Prop} {s : Shared} {G h₀ : Heap} {L a : Addr} {m mg mb : Str → Option Value} {cn : Str} {cs : Scope} {cd : Value} {cl : List (Str × Addr)}
  {x : Str} {pos : Pos} {v : Value} {Q : Value → Shared → Prop} {own : List (Addr × Obj)}
theorem nm_l (F : Fm G h₀ L m own s.heap) (hv : m x = some v) (h : Q v s)
    (hk : cs.kind = .function := by rfl) (hx : (envX cn cs L a cd cl).kindOf x = some .local := by rfl) (hd : (x == ("__debug__" : Str)) = false := by decide) :
    wpAny M A (eval (.Name x pos) (envX cn cs L a cd cl)) Q E s := wpAny_Name (wpAny_loadName_local hk hx F.ns hv h) hd
theorem nm_g (B : Bs G mg mb) (F : Fm G h₀ L m own s.heap) (hv : mg x = some v) (h : Q v s)
    (hk : cs.kind = .function := by rfl) (hx : (envX cn cs L a cd cl).kindOf x = some .globalImplicit := by rfl) (hd : (x == ("__debug__" : Str)) = false := by decide) :
    wpAny M A (eval (.Name x pos) (envX cn cs L a cd cl)) Q E s := Name_function_global hk hx (loadGlobal_global (env := envX cn cs L a cd cl) (B.g.keeps F.wd.st) hv h) hd
theorem nm_b (B : Bs G mg mb) (F : Fm G h₀ L m own s.heap) (hn : mg x = none) (hv : mb x = some v) (h : Q v s)
    (hk : cs.kind = .function := by rfl) (hx : (envX cn cs L a cd cl).kindOf x = some .globalImplicit := by rfl) (hd : (x == ("__debug__" : Str)) = false := by decide) :
    wpAny M A (eval (.Name x pos) (envX cn cs L a cd cl)) Q E s := Name_function_global hk hx (loadGlobal_builtin (env := envX cn cs L a cd cl) (B.g.keeps F.wd.st) hn (B.b.keeps F.wd.st) hv h) hd
theorem nm_c {c : Addr} (hc : cl.lookup x = some c) (hv : s.heap.IsCell c (some v)) (h : Q v s)
    (hk : cs.kind = .function := by rfl) (hx : (envX cn cs L a cd cl).kindOf x = some .cell := by rfl) (hb : (x == ("__debug__" : Str)) = false := by decide) :
    wpAny M A (eval (.Name x pos) (envX cn cs L a cd cl)) Q E s := wpAny_Name (wpAny_loadName_cell hk hx hc hv h) hb
theorem nm_f {c : Addr} (hc : cl.lookup x = some c) (hv : s.heap.IsCell c (some v)) (h : Q v s)
    (hk : cs.kind = .function := by rfl) (hx : (envX cn cs L a cd cl).kindOf x = some .free := by rfl) (hb : (x == ("__debug__" : Str)) = false := by decide) (hn : (x == ("__classdict__" : Str)) = false := by decide) :
    wpAny M A (eval (.Name x pos) (envX cn cs L a cd cl)) Q E s := wpAny_Name (wpAny_loadName_free hk hx hc hv h hn) hb
theorem st_l {Q : Unit → Shared → Prop} (F : Fm G h₀ L m own s.heap)
    (h : ∀ h', Fm G h₀ L (fun y => if y = x then some v else m y) own h' → Q () { s with heap := h', toks := s.toks + 1 })
    (hk : cs.kind = .function := by rfl) (hx : (envX cn cs L a cd cl).kindOf x = some .local := by rfl) : wpAny M A (storeName (envX cn cs L a cd cl) x v) Q E s :=
  wpAny_storeName_local hx F.ns (fun h' hn hs => h h' (F.store hn hs)) (by show (cs.kind == .class || (cs.kind == .module && L != mainGlobals)) = false; rw [hk]; rfl)
end

section
variable {prog : Program} {w : World} {G h₁ : Heap} {mg mb : Str → Option Value}

set_option maxHeartbeats 1000000 in
theorem does_T (B : Bs G mg mb) (i : Int) (t : Tok) : Does prog w G h₁ 1 (.ref 28) [.int i t] (fun _ v _ => v = .bool (decide (i < 256))) := by
  intro A s Q E _ W R h
  obtain ⟨u, hu⟩ := B.nOff
  refine enter (k := 0) (binds := [(Str.ofString "x", .int i t)]) B.fT B.lim B.bg W R (fun _ => rfl) (by decide) (locs rfl) rfl rfl rfl fun h' F R' => ?_
  refine wpAny_execs_cons (wpAny_Return_some (wpAny_Compare1 (nm_l F rfl (nm_g B F hu (lt_int ?_)))))
  exact h _ _ _ F.keep F.wd rfl
set_option maxHeartbeats 1000000 in
theorem does_N (B : Bs G mg mb) (i : Int) (t : Tok) : Does prog w G h₁ 1 (.ref 35) [.int i t] (fun _ v _ => v = .bool (decide (256 ≤ i))) := by
  intro A s Q E _ W R h
  obtain ⟨u, hu⟩ := B.nOff
  refine enter (k := 0) (binds := [(Str.ofString "x", .int i t)]) B.fN B.lim B.bg W R (fun _ => rfl) (by decide) (locs rfl) rfl rfl rfl fun h' F R' => ?_
  refine wpAny_execs_cons (wpAny_Return_some (wpAny_Compare1 (nm_l F rfl (nm_g B F hu (ge_int ?_)))))
  exact h _ _ _ F.keep F.wd rfl
set_option maxHeartbeats 1000000 in
theorem does_E (B : Bs G mg mb) (i : Int) (t : Tok) : Does prog w G h₁ 1 (.ref 42) [.int i t] (fun _ v _ => v = .bool (i == 0)) := by
  intro A s Q E _ W R h
  obtain ⟨u, hu⟩ := B.nEnd
  refine enter (k := 0) (binds := [(Str.ofString "x", .int i t)]) B.fE B.lim B.bg W R (fun _ => rfl) (by decide) (locs rfl) rfl rfl rfl fun h' F R' => ?_
  refine wpAny_execs_cons (wpAny_Return_some (wpAny_Compare1 (nm_l F rfl (nm_g B F hu (eq_int ?_)))))
  exact h _ _ _ F.keep F.wd rfl
end

def IsFn (h : Heap) (f : Addr) : Prop := ∃ oc od fd osl, h.get? f = some ⟨oc, od, .func fd, osl⟩
theorem IsFn.ext {h h' : Heap} {f : Addr} (x : IsFn h f) (hT : ¬ IsTb f) (k : Ext h h') : IsFn h' f := let ⟨a, b, c, d, e⟩ := x; ⟨a, b, c, d, k _ _ hT e⟩
theorem IsFn.of {G : Heap} {n : Nat} {q : Str} {f c : Addr} (x : FnAt G n q f c) : IsFn G f := let ⟨_, e, _⟩ := x; ⟨_, _, _, _, e⟩
theorem IsFn.keeps {h h' : Heap} {f : Addr} (x : IsFn h f) (k : ∀ b o, h.get? b = some o → h'.get? b = some o) : IsFn h' f := let ⟨a, b, c, d, e⟩ := x; ⟨a, b, c, d, k _ _ e⟩

section
variable {M : Model} {A : Around} {E : Value → Shared → Prop} {s : Shared} {env : Env} {pos np : Pos} {Q : Value → Shared → Prop} {x : Str}
theorem looks_fn {h : Heap} {f : Addr} (e : IsFn h f) : ∃ k, (k = Keeper.frame ∨ k = Keeper.machine ∨ k = Keeper.boundFrame) ∧ Looks M h (keeperOf (.ref f)) k := by
  obtain ⟨oc, od, fd, osl, e⟩ := e
  exact ⟨.frame, .inl rfl, (Looks.ld (part := none) e).andThen .now⟩
/-- f(e, ..) of a def or lambda by name -/
theorem callF {e : Expr} {rest : List Expr} (h : wpAny M A (eval (.Name x np) env) (fun fv s₁ => ∃ f, fv = .ref f ∧
      wpAny M A (spliced (backTo pos (starEach (e :: rest) env))) (fun vs s₂ => IsFn s₂.heap f ∧ wpAny M A (call (.ref f) vs) Q E s₂) E s₁) E s)
    (he : starEach (e :: rest) env = (false, eval e env) :: starEach rest env := by rfl) (hplain : (backTo pos (starEach rest env)).any (·.1) = false := by rfl) :
    wpAny M A (eval (.Call (.Name x np) (e :: rest) [] pos) env) Q E s := by
  refine wpAny_Call_NameR (wpAny_mono h (fun fv s₁ h₁ => ?_) fun _ _ y => y)
  obtain ⟨f, rfl, h₁⟩ := h₁
  rw [he] at h₁ ⊢
  exact callWith_of (P := fun h => IsFn h f) (by show ((false || (backTo pos (starEach rest env)).any (·.1)) || false) = false; rw [hplain]; rfl) (fun h hf => looks_fn hf) (evalArgs_plain h₁)
/-- a built-in function or class by name, one argument -/
theorem callB {e : Expr} {id : String} (h : wpAny M A (eval (.Name x np) env) (fun fv s₁ => fv = .builtin id ∧ wpAny M A (eval e env) (fun v s₂ => wpAny M A (call (.builtin id) [v]) Q E s₂) E s₁) E s)
    (he : starEach [e] env = [(false, eval e env)] := by rfl) :
    wpAny M A (eval (.Call (.Name x np) [e] [] pos) env) Q E s := by
  refine wpAny_Call_NameR (wpAny_mono h (fun fv s₁ h₁ => ?_) fun _ _ y => y)
  obtain ⟨rfl, h₁⟩ := h₁
  rw [he]
  refine Calls.callWith_builtin rfl (evalArgs_plain (spliced_cons (wpAny_mono h₁ (fun v s₂ h₂ => spliced_nil ?_) fun _ _ y => y)))
  exact h₂
theorem callT {e : Expr} {id : String} (h : wpAny M A (eval (.Name x np) env) (fun fv s₁ => fv = .type id ∧ wpAny M A (eval e env) (fun v s₂ => wpAny M A (call (.type id) [v]) Q E s₂) E s₁) E s)
    (he : starEach [e] env = [(false, eval e env)] := by rfl) :
    wpAny M A (eval (.Call (.Name x np) [e] [] pos) env) Q E s := by
  refine wpAny_Call_NameR (wpAny_mono h (fun fv s₁ h₁ => ?_) fun _ _ y => y)
  obtain ⟨rfl, h₁⟩ := h₁
  rw [he]
  refine PySem.callWith_type rfl (evalArgs_plain (spliced_cons (wpAny_mono h₁ (fun v s₂ h₂ => spliced_nil ?_) fun _ _ y => y)))
  exact h₂
end

abbrev lst (vs : Array Value) (n : Nat) : Obj := { cls := .type "list", data := .seq vs n }
theorem lst_noCode {vs : Array Value} {n : Nat} : NoCode (lst vs n) := fun _ _ _ e => by cases e

section
variable {prog : Program} {w : World} {A : Around} {s : Shared} {G h₀ : Heap} {L : Addr} {m : Str → Option Value} {own : List (Addr × Obj)} {env : Env} {x : Str} {px : Pos} {body : List Stmt} {Q : Flow → Shared → Prop}

theorem loop_list {l : Addr} {vs : List Value} (hh : A.handled = none) (hL : env.locals = L) (hx : env.kindOf x = some .local) (hk : env.scope.kind = .function)
    (F : Fm G h₀ L m own s.heap) (hl : h₀.IsList l vs.toArray) (hlT : ¬ IsTb l) (J : Nat → (Str → Option Value) → List (Addr × Obj) → Prop) (j0 : J 0 m own)
    (turn : ∀ i v m₁ own₁ h tk I oI, vs[i]? = some v → J i m₁ own₁ → (∀ p ∈ own₁, p.1 ≠ I) → Fm G h₀ L (fun y => if y = x then some v else m₁ y) ((I, oI) :: own₁) h →
      wpAny (model prog w) A (execs body env) (fun fl s' => fl = .next ∧ ∃ h' tk' m₂ own₂, s' = { s with heap := h', toks := tk' } ∧ J (i + 1) m₂ own₂ ∧ (∀ p ∈ own₂, p.1 ≠ I) ∧ Fm G h₀ L m₂ ((I, oI) :: own₂) h') (fun _ _ => False) { s with heap := h, toks := tk })
    (done : ∀ m₁ own₁ h tk, J vs.length m₁ own₁ → Fm G h₀ L m₁ own₁ h → Q .next { s with heap := h, toks := tk }) :
    wpAny (model prog w) A (pyIter (.ref l)) (fun it s₂ => codeAny (model prog w) A (.forLoop (.Name x px) it body [] env) (fun r s' => match r with | .ok f => Q f s' | .error e => cameBackBy (model prog w) A env (fun _ _ => False) e s') s₂) (fun _ _ => False) s := by
  have hls : ∀ {h : Heap} {m' : Str → Option Value} {o' : List (Addr × Obj)}, Fm G h₀ L m' o' h → h.IsList l vs.toArray := fun F' => let ⟨o, ho, r⟩ := hl; ⟨o, F'.old ho hlT, r⟩
  have hp : (env.scope.kind == .class || (env.scope.kind == .module && env.locals != env.globals)) = false := by rw [hk]; rfl
  subst hL
  refine wpAny_pyIter_list (hls F) ?_
  refine codeAny_forLoop (R := fun r s' => match r with | .ok f => Q f s' | .error e => cameBackBy (model prog w) A env (fun _ _ => False) e s')
    (fun n s' => ∃ h' tk m' own' i oI, s' = { s with heap := h', toks := tk } ∧ oI.cls = .type "list_iterator" ∧ oI.data = .fields #[.ref l, .int (i : Nat) 0] ∧ J i m' own' ∧ i ≤ vs.length ∧ n = vs.length + 1 - i ∧ (∀ p ∈ own', p.1 ≠ s.heap.objs.size) ∧
      Fm G h₀ env.locals m' ((s.heap.objs.size, oI) :: own') h') ?_ (vs.length + 1)
    ⟨_, s.toks, m, own, 0, _, rfl, rfl, rfl, j0, Nat.zero_le _, rfl, fun p hp => Nat.ne_of_lt (Heap.lt_size (F.nw p hp).1), F.push _⟩
  rintro n s' ⟨h', tk, m', own', i, oI, rfl, c1, c2, hJ, hi, rfl, hne, F'⟩
  have hit : h'.IsListIter s.heap.objs.size l i := ⟨oI, F'.get (.head _), c1, c2⟩
  have nc : ∀ {o : Obj} {j : Nat}, o.data = .fields #[.ref l, .int (j : Nat) 0] → NoCode o := fun c vs' q t e => by rw [c] at e; cases e; intro e'; cases e'
  cases hv : vs.toArray[i]? with
  | none =>
    have hsz : i = vs.length := Nat.le_antisymm hi (by simpa using hv)
    refine wpAny_pyNext_list_end hh hit (hls F') hv fun h₁ he₁ => wpAny_execs_nil ?_
    exact done m' own' h₁ tk (hsz ▸ hJ) (F'.but he₁ hne (nc c2))
  | some v =>
    have hlt : i < vs.length := by simpa using (Array.getElem?_eq_some_iff.mp hv).1
    refine wpAny_pyNext_list_item hit (hls F') hv fun h₁ hit₁ hs₁ => ?_
    obtain ⟨oI₁, e1, e2, e3⟩ := hit₁
    have F₁ := F'.upd hs₁.extBut hne (nc c2) e1
    refine wpAny_assign_Name (wpAny_storeName_local hx F₁.ns (fun h₂ hn₂ hs₂ => ?_) hp)
    have F₂ := F₁.store hn₂ hs₂
    refine wpAny_mono (turn i v m' own' h₂ _ _ _ (by simpa using hv) hJ hne F₂) (fun fl s₃ h₃ => ?_) fun _ _ e => e.elim
    obtain ⟨rfl, h₃, tk₃, m₂, own₂, rfl, hJ₂, hne₂, F₃⟩ := h₃
    exact ⟨vs.length + 1 - (i + 1), by omega, h₃, tk₃, m₂, own₂, i + 1, oI₁, rfl, e2, e3, hJ₂, hlt, rfl, hne₂, F₃⟩
end

section
variable {prog : Program} {w : World} {G h₁ : Heap} {mg mb : Str → Option Value}

def SplitPost (h : Heap) (vs : List Value) (pd : Value → Bool) (r : Value) (h' : Heap) : Prop :=
  ∃ t y z, r = .ref t ∧ h.objs.size ≤ t ∧ h.objs.size ≤ y ∧ h.objs.size ≤ z ∧ h'.IsTuple t #[.ref y, .ref z] ∧ h'.PlainList y (vs.filter pd).toArray ∧ h'.PlainList z (vs.filter (fun v => !pd v)).toArray

theorem take_filter {α : Type} {p : α → Bool} {vs : List α} {i : Nat} {v : α} (h : vs[i]? = some v) : (vs.take (i + 1)).filter p = (vs.take i).filter p ++ (if p v = true then [v] else []) := by
  rw [List.take_add_one, h, List.filter_append]
  congr 1
  by_cases hp : p v = true <;> simp [hp]

set_option maxHeartbeats 2000000 in
theorem does_S (B : Bs G mg mb) {l p : Addr} {vs : List Value} {pd : Value → Bool} {n : Nat} (hl : h₁.IsList l vs.toArray) (hlT : ¬ IsTb l) (hsz : vs.length ≤ 1000)
    (hf : IsFn h₁ p) (hpT : ¬ IsTb p) (hp : ∀ v ∈ vs, Does prog w G h₁ n (.ref p) [v] (fun _ r _ => r = .bool (pd v))) :
    Does prog w G h₁ (n + 1) (.ref 21) [.ref l, .ref p] (fun h r h' => SplitPost h vs pd r h') := by
  intro A s Q E X W R h
  refine enter (k := n) (binds := [(Str.ofString "s", .ref l), (Str.ofString "predicate", .ref p)]) B.fS B.lim B.bg W R (fun _ => rfl) (by decide) (locs rfl) rfl rfl rfl fun h' F R' => ?_
  have hl₀ : s.heap.IsList l vs.toArray := let ⟨o, e, r⟩ := hl; ⟨o, X _ _ hlT e, r⟩
  refine wpAny_execs_cons (wpAny_Assign_Name (wpAny_List (spliced_none ⟨by decide, st_l (F.push _) fun h1 F1 => ?_⟩)))
  refine wpAny_execs_cons (wpAny_Assign_Name (wpAny_List (spliced_none ⟨by decide, st_l (F1.push _) fun h2 F2 => ?_⟩)))
  have hyz : h'.objs.size ≠ h1.objs.size := Nat.ne_of_lt (Heap.lt_size (F1.get (.head _)))
  generalize h'.objs.size = y at *
  generalize h1.objs.size = z at *
  refine wpAny_execs_cons (wpAny_For (nm_l F2 rfl ?_))
  refine loop_list R'.hd rfl rfl rfl F2 hl₀ hlT
    (fun i m own => m (Str.ofString "yes") = some (.ref y) ∧ m (Str.ofString "no") = some (.ref z) ∧ m (Str.ofString "predicate") = some (.ref p) ∧
      ∃ ny nz, own = [(z, lst ((vs.take i).filter (fun v => !pd v)).toArray nz), (y, lst ((vs.take i).filter pd).toArray ny)])
    ⟨rfl, rfl, rfl, 0, 0, rfl⟩ ?_ ?_
  · rintro i v m₁ own₁ h3 tk I oI hv ⟨e1, e2, e3, ny, nz, rfl⟩ hne F3
    have hvm : v ∈ vs := List.mem_of_getElem? hv
    have hIz : z ≠ I := hne _ (.head _)
    have hIy : y ≠ I := hne _ (.tail _ (.head _))
    have len1 : ((vs.take i).filter pd).length ≤ 1000 := Nat.le_trans (List.length_filter_le _ _) (Nat.le_trans (List.length_take_le' _ _) hsz)
    have len2 : ((vs.take i).filter (fun v => !pd v)).length ≤ 1000 := Nat.le_trans (List.length_filter_le _ _) (Nat.le_trans (List.length_take_le' _ _) hsz)
    refine wpAny_execs_cons (wpAny_If (isTrue_plain (callF (nm_l F3 ((if_neg (by decide)).trans e3) ⟨p, rfl, spliced_more (nm_l F3 (if_pos rfl) (spliced_none ⟨hf.ext hpT (X.trans F3.keep), ?_⟩))⟩))))
    refine hp v hvm _ _ _ _ (X.trans F3.keep) F3.wd R' fun r h4 tk4 X4 W4 hr => ?_
    subst hr
    have F4 := F3.call X4 W4
    refine wpAny_truthy_bool ?_
    cases hpv : pd v with
    | true =>
      refine wpAny_execs_cons (wpAny_Expr_any (wpAny_Call_append rfl rfl rfl rfl (nm_l F4 ((if_neg (by decide)).trans e1) ⟨y, _, rfl, ⟨_, _, F4.get (.tail _ (.tail _ (.head _))), rfl, rfl, rfl⟩, nm_l F4 (if_pos rfl) ?_⟩)))
      refine wpAny_list_append_plain ⟨_, F4.get (.tail _ (.tail _ (.head _)))⟩ (fun h5 hpl hs => ?_) (by rw [List.size_toArray]; exact Nat.le_trans len1 (by decide))
      obtain ⟨n5, e5⟩ := hpl
      have F5 := (F4.sub (own' := [(y, lst ((vs.take i).filter pd).toArray ny), (I, oI), (z, lst ((vs.take i).filter (fun v => !pd v)).toArray nz)])
        (by intro q hq; simp only [List.mem_cons, List.not_mem_nil, or_false] at hq ⊢; rcases hq with h | h | h <;> simp [h])).upd hs.extBut (by intro q hq; simp only [List.mem_cons, List.not_mem_nil, or_false] at hq; rcases hq with rfl | rfl; exact hIy.symm; exact hyz.symm) lst_noCode e5
      refine wpAny_execs_nil (wpAny_execs_nil ⟨rfl, h5, _, (fun y => if y = Str.ofString "x" then some v else m₁ y), [(z, lst ((vs.take (i + 1)).filter (fun v => !pd v)).toArray nz), (y, lst ((vs.take (i + 1)).filter pd).toArray n5)], rfl,
        ⟨(if_neg (by decide)).trans e1, (if_neg (by decide)).trans e2, (if_neg (by decide)).trans e3, n5, nz, rfl⟩, ?_, ?_⟩)
      · intro q hq; simp only [List.mem_cons, List.not_mem_nil, or_false] at hq; rcases hq with rfl | rfl; exact hIz; exact hIy
      · rw [take_filter hv, take_filter hv]
        simp only [hpv, Bool.not_true, Bool.false_eq_true, if_true, if_false, List.append_nil]
        refine F5.sub ?_
        intro q hq; simp only [List.mem_cons, List.not_mem_nil, or_false, List.push_toArray] at hq ⊢; rcases hq with h | h | h <;> simp [h]
    | false =>
      refine wpAny_execs_cons (wpAny_Expr_any (wpAny_Call_append rfl rfl rfl rfl (nm_l F4 ((if_neg (by decide)).trans e2) ⟨z, _, rfl, ⟨_, _, F4.get (.tail _ (.head _)), rfl, rfl, rfl⟩, nm_l F4 (if_pos rfl) ?_⟩)))
      refine wpAny_list_append_plain ⟨_, F4.get (.tail _ (.head _))⟩ (fun h5 hpl hs => ?_) (by rw [List.size_toArray]; exact Nat.le_trans len2 (by decide))
      obtain ⟨n5, e5⟩ := hpl
      have F5 := (F4.sub (own' := [(z, lst ((vs.take i).filter (fun v => !pd v)).toArray nz), (I, oI), (y, lst ((vs.take i).filter pd).toArray ny)])
        (by intro q hq; simp only [List.mem_cons, List.not_mem_nil, or_false] at hq ⊢; rcases hq with h | h | h <;> simp [h])).upd hs.extBut (by intro q hq; simp only [List.mem_cons, List.not_mem_nil, or_false] at hq; rcases hq with rfl | rfl; exact hIz.symm; exact hyz) lst_noCode e5
      refine wpAny_execs_nil (wpAny_execs_nil ⟨rfl, h5, _, (fun y => if y = Str.ofString "x" then some v else m₁ y), [(z, lst ((vs.take (i + 1)).filter (fun v => !pd v)).toArray n5), (y, lst ((vs.take (i + 1)).filter pd).toArray ny)], rfl,
        ⟨(if_neg (by decide)).trans e1, (if_neg (by decide)).trans e2, (if_neg (by decide)).trans e3, ny, n5, rfl⟩, ?_, ?_⟩)
      · intro q hq; simp only [List.mem_cons, List.not_mem_nil, or_false] at hq; rcases hq with rfl | rfl; exact hIz; exact hIy
      · rw [take_filter hv, take_filter hv]
        simp only [hpv, Bool.not_false, Bool.false_eq_true, if_true, if_false, List.append_nil]
        refine F5.sub ?_
        intro q hq; simp only [List.mem_cons, List.not_mem_nil, or_false, List.push_toArray] at hq ⊢; rcases hq with h | h | h <;> simp [h]
  · rintro m₁ own₁ h3 tk ⟨e1, e2, e3, ny, nz, rfl⟩ F3
    refine wpAny_execs_cons (wpAny_Return_some (wpAny_Tuple (spliced_more (nm_l F3 e1 (spliced_more (nm_l F3 e2 (spliced_none ⟨by size_fits, ?_⟩)))))))
    have F4 := F3.push { cls := .type "tuple", data := .seq #[.ref y, .ref z] }
    refine h _ _ _ F4.keep F4.wd ?_
    refine ⟨_, y, z, rfl, Nat.le_of_lt (F4.nw _ (.head _)).2, Nat.le_of_lt (F4.nw _ (.tail _ (.tail _ (.head _)))).2, Nat.le_of_lt (F4.nw _ (.tail _ (.head _))).2, ⟨_, F4.get (.head _), rfl, _, rfl⟩, ?_, ?_⟩
    · have := F4.get (.tail _ (.tail _ (.head _)))
      rw [List.take_length] at this
      exact ⟨_, this⟩
    · have := F4.get (.tail _ (.head _))
      rw [List.take_length] at this
      exact ⟨_, this⟩
end

theorem codeAmong_snoc_or {pos : Pos} {a b : Int} {c cv : Value} (l : List Value) (h : TriplesOk l) (e : codeAmong pos (l ++ [rawInt a, rawInt b, c]) = some cv) : codeAmong pos l = some cv ∨ cv = c := by
  fun_induction TriplesOk l with
  | case1 =>
    simp only [List.nil_append, codeAmong, rawInt] at e
    split at e
    · exact .inr (Option.some.inj e).symm
    · cases e
  | case2 a' t b' u x rest ih =>
    simp only [List.cons_append, codeAmong] at e ⊢
    split at e
    · rename_i q; rw [if_pos q]; exact .inl e
    · rename_i q; rw [if_neg q]; exact ih h e
  | case3 => exact h.elim

section
variable {prog : Program} {w : World} {A : Around} {s : Shared} {G h₀ : Heap} {L : Addr} {m mg mb : Str → Option Value} {own : List (Addr × Obj)} {E Q : Value → Shared → Prop}

theorem tb_ne {P : Addr} (h : IsTb P) : mainGlobals ≠ P := by
  rcases h with rfl | rfl | rfl <;> decide
theorem isTb_le {P : Addr} (h : IsTb P) : P ≤ 65 := by rcases h with rfl | rfl | rfl <;> decide

theorem mk_lambda {M : Model} {env : Env} {params : Arguments} {body : Expr} {scope : Scope} {pos : Pos} {c P : Addr} {q : Str} {clos : List (Str × Addr)} (B : Bs G mg mb) (F : Fm G h₀ L m own s.heap)
    (hc : env.code = .ref c) (C : CodeHd G c P) (hP : (P, q) ∈ tq) (hq : env.qual ++ "<lambda>" = q) (hcl : closureFor scope env = pure clos) (hge : env.globals = mainGlobals) (hdef : defaultsOf params env = ([], []))
    (h : ∀ f c' pm ctv h' tk, Ext s.heap h' → Fm G h₀ L m ((f, kla_obj "<lambda>" q params body scope clos pm c' ctv) :: own) h' → ¬ IsTb c' → h'.CodeRec (.ref c') q → Q (.ref f) { s with heap := h', toks := tk }) :
    wpAny M A (eval (.Lambda params body scope pos) env) Q E s := by
  refine kla_eval hdef ?_
  rw [hq]
  obtain ⟨ps, e, t, k⟩ := F.wd.tb _ hP
  have hPT : IsTb P := tq_isTb hP
  have hg := B.g.keeps F.wd.st
  obtain ⟨bm, ob, b1, b2, b3, b4, b5, b6⟩ := B.bm
  have hbP : bm ≠ P := fun q' => by
    have := B.hid _ hP
    rw [show ((P, q).1 : Addr) = P from rfl, ← q', b3] at this; cases this
  have hbG : bm ≠ mainGlobals := fun q' => by
    obtain ⟨o, es, ep, e', hd, _⟩ := B.g
    rw [q', e'] at b3; cases b3; rw [hd] at b6; cases b6
  have hb : s.heap.BuiltinsAt mg P := ⟨bm, ob, b1, b2, hbG, hbP, F.wd.st _ _ b3, b4, b5, b6⟩
  cases hca : codeAmong pos ps.toList with
  | some cv =>
    obtain ⟨c', rfl, hT, hrec⟩ := k pos cv hca
    refine kla_makeFunctionHit (mg := mg) hcl hge hg hc (C.keeps F.wd.st) e t hca hb fun ctv h' tk hk hsz => ?_
    have F1 := (F.ext hk).push { cls := .type "function", data := .func (kla_fn "<lambda>" q params body scope clos ((mg "__name__").getD .none) (.ref c') ctv) }
    exact h _ _ _ _ _ _ (Ext.of fun b o e => Heap.get?_push_of_some _ (hk b o e)) F1 hT ((hrec.keeps hk).push _)
  | none =>
    refine kla_makeFunction (mg := mg) hcl hge hg hc (C.keeps F.wd.st) e t hca (tb_ne hPT) hb fun c' ctv h' tk hx hge' hlt hrec htb => ?_
    have hLP : L ≠ P := fun e' => by have := F.big; rw [e'] at this; exact absurd (isTb_le hPT) (Nat.not_le.mpr this)
    have hns : h'.Ns L m := F.ns.extBut hx hLP
    have hc'T : ¬ IsTb c' := notTb (Nat.lt_trans F.big (Nat.lt_of_lt_of_le F.ns.lt hge'))
    have F1 : Fm G h₀ L m own h' :=
      { ns := hns
        keep := fun b o n e' => hx b o (fun q' => n (q' ▸ hPT)) (F.keep b o n e')
        above := F.above
        base := F.base
        big := F.big
        wd := { st := fun b o e' => hx b o (fun q' => by have := B.hid _ hP; rw [show ((P, q).1 : Addr) = P from rfl, ← q', e'] at this; cases this) (F.wd.st b o e')
                sz := Nat.le_of_lt (Nat.lt_of_le_of_lt F.base hns.lt)
                tb := fun p hp => by
                  by_cases hpp : p.1 = P
                  · have hpq : p.2 = q := by
                      obtain ⟨p1, p2⟩ := p
                      simp only [tq, List.mem_cons, Prod.mk.injEq, List.not_mem_nil, or_false] at hp hP
                      dsimp only at hpp ⊢
                      rcases hp with ⟨r1, r2⟩ | ⟨r1, r2⟩ | ⟨r1, r2⟩ <;> rcases hP with ⟨r3, r4⟩ | ⟨r3, r4⟩ | ⟨r3, r4⟩ <;> first | (rw [r2, r4]; done) | (exfalso; rw [r1, r3] at hpp; revert hpp; decide)
                    rw [hpp, hpq]
                    refine ⟨_, htb, ?_, fun pos' cv hc' => ?_⟩
                    · rw [Array.toList_append]; exact TriplesOk_snoc _ _ _ _ t
                    · rw [Array.toList_append] at hc'
                      rcases codeAmong_snoc_or _ t hc' with q' | rfl
                      · obtain ⟨c2, r1, r2, c3, o3, vs3, t3, x1, x2, x3⟩ := k pos' cv q'
                        refine ⟨c2, r1, r2, c3, o3, vs3, t3, x1, hx _ _ (fun q2 => r2 ?_) x2, x3⟩
                        cases x1; rw [q2]; exact hPT
                      · exact ⟨c', rfl, hc'T, hrec⟩
                  · obtain ⟨ps', e', t', k'⟩ := F.wd.tb p hp
                    refine ⟨ps', hx _ _ hpp e', t', fun pos' cv hc' => ?_⟩
                    obtain ⟨c2, r1, r2, c3, o3, vs3, t3, x1, x2, x3⟩ := k' pos' cv hc'
                    refine ⟨c2, r1, r2, c3, o3, vs3, t3, x1, hx _ _ (fun q2 => r2 ?_) x2, x3⟩
                    cases x1; rw [q2]; exact hPT }
        nw := fun p hp => ⟨hx _ _ (fun q' => by have := Nat.lt_trans F.big (F.nw p hp).2; rw [q'] at this; exact absurd (isTb_le hPT) (Nat.not_le.mpr this)) (F.nw p hp).1, (F.nw p hp).2⟩ }
    exact h _ _ _ _ _ _ (fun b o n e => Heap.get?_push_of_some _ (hx b o (fun q' => n (q' ▸ hPT)) e)) (F1.push _) hc'T (hrec.push _)

theorem enterLam {k : Nat} {q name : Str} {f c' : Addr} {params : Arguments} {body : Expr} {scope : Scope} {clos : List (Str × Addr)} {pm ctv : Value} {vals : List Value} {binds : List (Str × Value)}
    (B : Bs G mg mb) (ho : s.heap.get? f = some (kla_obj name q params body scope clos pm c' ctv)) (hcd : s.heap.CodeRec (.ref c') q) (W : Wd G s.heap) (R : Room A (k + 1))
    (hbind : bindArgs (kla_fn name q params body scope clos pm (.ref c') ctv) ⟨vals, []⟩ = pure binds) (hcell : ∀ x ∈ scope.names, x.2 ≠ .cell) (hloc : ∀ y ∈ binds, scope.names.lookup y.1 = some .local)
    (hco : scope.isCoroutine = false) (hgen : scope.isGenerator = false) (hk : scope.kind = .function)
    (h : ∀ h₁, Fm G s.heap s.heap.objs.size (fun x => binds.reverse.lookup x) [] h₁ → Room (A.deeper (envX q scope s.heap.objs.size f (.ref c') clos)) k →
      wpAny (model prog w) (A.deeper (envX q scope s.heap.objs.size f (.ref c') clos)) (eval body (envX q scope s.heap.objs.size f (.ref c') clos)) Q (fun _ _ => False) { s with heap := h₁, toks := s.toks + binds.length }) :
    wpAny (model prog w) A (call (.ref f) vals) Q E s := by
  have hroom : A.depth < recursionLimit := by have := R.dp; omega
  refine wpAny_call (kla_callFunE hroom ho rfl hco hgen rfl hcd ?_)
  rw [hbind]
  refine wpAny_pure (wpAny_newFunctionEnv hcell hloc (fun h₁ hns hsb => ⟨(B.lim.keeps W.st).fresh _ hsb, ?_⟩) hk)
  show codeAny _ _ (.expr body (envX q scope s.heap.objs.size f (.ref c') clos)) _ _
  have hk₁ : ∀ b o, s.heap.get? b = some o → h₁.get? b = some o := fun b o e => hsb.extBut b o (Nat.ne_of_lt (Heap.lt_size e)) (Heap.get?_push_of_some _ e)
  refine kla_codeExpr (wpAny_mono (h h₁ ?_ R.deeper) (fun _ _ x => x) fun _ _ x => x.elim)
  exact { ns := hns, keep := Ext.of hk₁, above := Nat.le_refl _, base := W.sz, big := Nat.lt_of_lt_of_le B.bg W.sz, wd := W.keeps hk₁ (Nat.le_trans W.sz (Nat.le_of_lt hns.lt)), nw := fun _ hp => nomatch hp }

/-- into a def with one cell -/
theorem enterC {n k : Nat} {q x : Str} {f c : Addr} {vals : List Value} {binds : List (Str × Value)}
    (B : Bs G mg mb) (hf : FnAt G n q f c) (W : Wd G s.heap) (R : Room A (k + 1))
    (hbind : ∀ pm, bindArgs (fnX q q (fnParams n) (fnBody n) (fnScope n) [] .none .none .none pm none (.ref c) .none) ⟨vals, []⟩ = pure binds)
    (hcells : ∀ a, cellsFrom a (fnScope n).names [] = [(x, a)]) (hloc : ∀ y ∈ binds, (fnScope n).names.lookup y.1 = some .local)
    (hco : (fnScope n).isCoroutine = false) (hgen : (fnScope n).isGenerator = false) (hk : (fnScope n).kind = .function) (hno : binds.lookup x = none)
    (hC : ∀ L, bindC (envX q (fnScope n) L f (.ref c) [(x, L + 1)]).kindOf binds (fun _ => none) x = none)
    (h : ∀ h₁ tk oc, oc.data = .cell none → Fm G s.heap s.heap.objs.size (bindL (envX q (fnScope n) s.heap.objs.size f (.ref c) [(x, s.heap.objs.size + 1)]).kindOf binds fun _ => none) [(s.heap.objs.size + 1, oc)] h₁ →
      Room (A.deeper (envX q (fnScope n) s.heap.objs.size f (.ref c) [(x, s.heap.objs.size + 1)])) k →
      wpAny (model prog w) (A.deeper (envX q (fnScope n) s.heap.objs.size f (.ref c) [(x, s.heap.objs.size + 1)])) (execs (fnBody n) (envX q (fnScope n) s.heap.objs.size f (.ref c) [(x, s.heap.objs.size + 1)]))
        (fun fl s' => Q (match fl with | .ret v => v | _ => .none) s') (fun _ _ => False) { s with heap := h₁, toks := tk }) :
    wpAny (model prog w) A (call (.ref f) vals) Q E s := by
  obtain ⟨pm, e1, e2⟩ := hf
  have hroom : A.depth < recursionLimit := by have := R.dp; omega
  refine wpAny_call (codeAny_call_cells hroom (W.st _ _ e1) rfl (B.lim.keeps W.st) (e2.keeps W.st) rfl (hbind pm) rfl (fun y hy => .inl (hloc y hy)) (fun s₁ x₁ => ?_) hco hgen hk)
  have henv : callEnvC (fnX q q (fnParams n) (fnBody n) (fnScope n) [] .none .none .none pm none (.ref c) .none) s.heap.objs.size f = envX q (fnScope n) s.heap.objs.size f (.ref c) [(x, s.heap.objs.size + 1)] := by
    unfold callEnvC
    rw [hcells]; rfl
  rw [henv] at x₁ ⊢
  obtain ⟨h₁, tk, rfl⟩ := x₁.toInCall.same
  have hk₁ := x₁.toInCall.keep
  have hns := x₁.toInCall.ns
  obtain ⟨oc, ho, hd⟩ := x₁.cell x (s.heap.objs.size + 1) (by simp [List.lookup])
  rw [hC] at hd
  refine wpAny_mono (h h₁ tk oc hd ?_ R.deeper) (fun _ _ x => x) fun _ _ x => x.elim
  exact { ns := hns, keep := Ext.of hk₁, above := Nat.le_refl _, base := W.sz, big := Nat.lt_of_lt_of_le B.bg W.sz, wd := W.keeps hk₁ (Nat.le_trans W.sz (Nat.le_of_lt hns.lt))
          nw := fun p hp => by rw [List.mem_singleton.mp hp]; exact ⟨ho, Nat.lt_succ_self _⟩ }
end

section
variable {G h₀ h h' : Heap} {L : Addr} {m m' : Str → Option Value} {own own' : List (Addr × Obj)}
theorem Fm.adopt {a : Addr} {o : Obj} (F : Fm G h₀ L m own h) (e : h.get? a = some o) (hL : L < a) : Fm G h₀ L m ((a, o) :: own) h :=
  { F with nw := fun p hp => (List.mem_cons.mp hp).elim (fun q => by subst q; exact ⟨e, hL⟩) (fun hp => F.nw p hp) }
end

section
variable {prog : Program} {w : World} {A : Around} {s : Shared} {E Q : Value → Shared → Prop}
theorem add_ls {l b : Addr} {vs ws : List Value} (hl : s.heap.PlainList l vs.toArray) (hb : s.heap.PlainList b ws.toArray)
    (h : Q (.ref s.heap.objs.size) { s with heap := s.heap.push { cls := .type "list", data := .seq (vs ++ ws).toArray } }) (hsz : vs.length + ws.length ≤ sizeLine := by size_fits) :
    wpAny (model prog w) A (binaryOp .Add (.ref l) (.ref b)) Q E s := by
  obtain ⟨n, e⟩ := hl
  obtain ⟨n2, e2⟩ := hb
  refine P.add_list e e2 ?_ (by simpa using hsz)
  rw [List.append_toArray]
  exact h
end

/-- a card: a pair of ints -/
def Card (h : Heap) (v : Value) (i k : Int) : Prop := ∃ a t u, v = .ref a ∧ ¬ IsTb a ∧ h.IsTuple a #[.int i t, .int k u]
theorem Card.ext {h h' : Heap} {v : Value} {i k : Int} (x : Card h v i k) (e : Ext h h') : Card h' v i k :=
  let ⟨a, t, u, e1, n, o, ho, r⟩ := x; ⟨a, t, u, e1, n, o, e _ _ n ho, r⟩
def cdata (i k : Int) : PyData := .tuple [.int i, .int k]
theorem Card.reads {h : Heap} {v : Value} {i k : Int} (x : Card h v i k) : Reads h v (cdata i k) [] := by
  obtain ⟨a, t, u, rfl, n, o, ho, hc, n', hd⟩ := x
  exact .tuple ho hc hd (.cons (.int i t) (.cons (.int k u) .nil))
theorem cards_reads {h : Heap} {key val : Value → Int} : ∀ {vs : List Value}, (∀ v ∈ vs, Card h v (key v) (val v)) → ReadsAll h vs (vs.map fun v => cdata (key v) (val v)) []
  | [], _ => .nil
  | v :: r, k => .cons (as := []) (bs := []) (k v (.head _)).reads (cards_reads fun u hu => k u (.tail _ hu))
theorem cards_canLay {key val : Value → Int} : ∀ vs : List Value, PyData.canLayAll0 (vs.map fun v => cdata (key v) (val v)) = true
  | [] => rfl
  | v :: r => by have := cards_canLay (key := key) (val := val) r; simpa [PyData.canLayAll0, PyData.canLay0, cdata] using this
theorem cards_depth {key val : Value → Int} : ∀ vs : List Value, PyData.depthAll (vs.map fun v => cdata (key v) (val v)) ≤ 1
  | [] => Nat.zero_le _
  | v :: r => by
    have := cards_depth (key := key) (val := val) r
    rw [List.map_cons, PyData.depthAll]
    exact Nat.max_le.mpr ⟨by simp [cdata, PyData.depth, PyData.depthAll], this⟩
theorem cards_shaped {key val : Value → Int} (vs : List Value) : SeqAt.shaped (.list (vs.map fun v => cdata (key v) (val v))) = true := by
  have h1 := cards_canLay (key := key) (val := val) vs
  have h2 := cards_depth (key := key) (val := val) vs
  have h3 : PyData.depth (.list (vs.map fun v => cdata (key v) (val v))) ≤ 64 := by rw [PyData.depth]; omega
  simp only [SeqAt.shaped, PyData.canLay0, h1, Bool.true_and]
  exact decide_eq_true h3
theorem list_reads {h : Heap} {l : Addr} {vs : List Value} {ds : List PyData} {as : List Addr} (hl : h.IsList l vs.toArray) (r : ReadsAll h vs ds as) : Reads h (.ref l) (.list ds) (l :: as) := by
  obtain ⟨o, ho, hc, n, hd⟩ := hl
  exact .list ho hc hd (by simpa using r)

/-- what the rising sort gives -/
inductive Rs (key : Value → Int) : List Value → List Value → Prop
  | nil : Rs key [] []
  | cons {vs a b : List Value} (mid : Int) : vs ≠ [] → Rs key (vs.filter fun v => decide (key v < mid)) a → Rs key (vs.filter fun v => decide (mid < key v)) b →
      Rs key vs (a ++ (vs.filter fun v => decide (key v = mid)) ++ b)

section
variable {prog : Program} {w : World} {G : Heap} {mg mb : Str → Option Value}

def SortPost (R : List Value → List Value → Prop) (vs : List Value) (h : Heap) (r : Value) (h' : Heap) : Prop :=
  ∃ a ws, r = .ref a ∧ h.objs.size ≤ a ∧ R vs ws ∧ h'.PlainList a ws.toArray

theorem PlainList.isList {h : Heap} {a : Addr} {xs : Array Value} (x : h.PlainList a xs) : h.IsList a xs := x.isList
theorem cell_noCode {o : Obj} {v : Option Value} (e : o.data = .cell v) : NoCode o := fun _ _ _ q => by rw [e] at q; cases q

theorem card_at {h : Heap} {key val : Value → Int} {vs : List Value} {i : Nat} (hi : i < vs.length) (hc : ∀ v ∈ vs, Card h v (key v) (val v)) :
    ∃ a t u, vs[i]? = some (.ref a) ∧ ¬ IsTb a ∧ h.IsTuple a #[.int (key (.ref a)) t, .int (val (.ref a)) u] := by
  have e : vs[i]? = some vs[i] := List.getElem?_eq_getElem hi
  obtain ⟨a, t, u, e1, n, r⟩ := hc _ (List.getElem_mem hi)
  rw [e1] at e r
  exact ⟨a, t, u, e, n, r⟩
theorem Room.un64 {A : Around} {n : Nat} (R : Room A n) : A.units + 64 < cLine := by have := R.un; omega
theorem dec_lt (a b : Int) : decide (a - b + 256 < 256) = decide (a < b) := decide_eq_decide.mpr (by omega)
theorem dec_eq (a b : Int) : (a - b == 0) = decide (a = b) := by
  rw [Bool.eq_iff_iff, beq_iff_eq, decide_eq_true_eq]
  omega
theorem dec_gt (a b : Int) : decide (256 ≤ a - b + 255) = decide (-a < -b) := decide_eq_decide.mpr (by omega)
theorem dec_eq' (a b : Int) : (a - b == 0) = decide (-a = -b) := by
  rw [Bool.eq_iff_iff, beq_iff_eq, decide_eq_true_eq]
  omega
theorem size_fit {vs : List Value} (h : vs.length ≤ 20) : (vs.toArray.size : Int) < 2 ^ 63 := by rw [List.size_toArray]; omega
theorem mid_ix {vs : List Value} (h : vs.length ≤ 20) : ((vs.toArray.size : Int).fdiv 2).toNat = vs.length / 2 ∧ 0 ≤ (vs.toArray.size : Int).fdiv 2 ∧ (vs.toArray.size : Int).fdiv 2 < 2 ^ 63 := by
  rw [List.size_toArray, Int.fdiv_eq_ediv_of_nonneg _ (by decide)]
  exact ⟨by omega, by omega, by omega⟩
theorem filter_three (key : Value → Int) (mid : Int) : ∀ vs : List Value, (vs.filter fun v => decide (key v < mid)).length + (vs.filter fun v => decide (key v = mid)).length + (vs.filter fun v => decide (mid < key v)).length = vs.length
  | [] => rfl
  | v :: r => by
    have := filter_three key mid r
    rcases Int.lt_trichotomy (key v) mid with h | h | h
    · have h2 : ¬ key v = mid := by omega
      have h3 : ¬ mid < key v := by omega
      simp only [List.filter_cons, h, h2, h3, decide_true, decide_false, if_true, Bool.false_eq_true, if_false, List.length_cons]; omega
    · have h2 : ¬ key v < mid := by omega
      have h3 : ¬ mid < key v := by omega
      simp only [List.filter_cons, h2, h3, decide_true, decide_false, if_true, Bool.false_eq_true, if_false, List.length_cons]; simp only [h, decide_true, if_true, List.length_cons]; omega
    · have h2 : ¬ key v < mid := by omega
      have h3 : ¬ key v = mid := by omega
      simp only [List.filter_cons, h, h2, h3, decide_true, decide_false, if_true, Bool.false_eq_true, if_false, List.length_cons]; omega
theorem Rs.length {key : Value → Int} {vs ws : List Value} (x : Rs key vs ws) : ws.length = vs.length := by
  induction x with
  | nil => rfl
  | cons mid _ _ _ ih1 ih2 =>
    rename_i vs a b _ _ _
    rw [List.length_append, List.length_append, ih1, ih2]
    exact filter_three key mid vs

theorem filter_short {p : Value → Bool} {vs : List Value} {x : Value} {N : Nat} (hx : x ∈ vs) (hp : p x = false) (hN : vs.length ≤ N) : (vs.filter p).length ≤ N - 1 := by
  have := List.length_filter_lt_length_iff_exists (p := p) (l := vs) |>.mpr ⟨x, hx, by rw [hp]; exact Bool.false_ne_true⟩
  omega
theorem filt_eq (key : Value → Int) (mid : Int) (vs : List Value) : ((vs.filter fun v => !decide (key v < mid)).filter fun v => decide (key v = mid)) = vs.filter fun v => decide (key v = mid) := by
  rw [List.filter_filter]
  refine List.filter_congr fun v _ => ?_
  rw [Bool.eq_iff_iff]; simp only [Bool.and_eq_true, decide_eq_true_eq, Bool.not_eq_true', decide_eq_false_iff_not]; omega
theorem filt_gt (key : Value → Int) (mid : Int) (vs : List Value) : ((vs.filter fun v => !decide (key v < mid)).filter fun v => !decide (key v = mid)) = vs.filter fun v => decide (mid < key v) := by
  rw [List.filter_filter]
  refine List.filter_congr fun v _ => ?_
  rw [Bool.eq_iff_iff]; simp only [Bool.and_eq_true, decide_eq_true_eq, Bool.not_eq_true', decide_eq_false_iff_not]; omega

set_option maxHeartbeats 4000000 in
theorem does_R_step (B : Bs G mg mb) (key val : Value → Int) (N : Nat) (hN2 : N ≤ 20)
    (ih : ∀ N', N' < N → ∀ (h₁ : Heap) (l : Addr) (vs : List Value), vs.length ≤ N' → h₁.IsList l vs.toArray → ¬ IsTb l → (∀ v ∈ vs, Card h₁ v (key v) (val v)) → Does prog w G h₁ (N' + 4) (.ref 49) [.ref l] (SortPost (Rs key) vs))
    (h₁ : Heap) (l : Addr) (vs : List Value) (hN : vs.length ≤ N) (hl : h₁.IsList l vs.toArray) (hlT : ¬ IsTb l) (hc : ∀ v ∈ vs, Card h₁ v (key v) (val v)) :
    Does prog w G h₁ (N + 4) (.ref 49) [.ref l] (SortPost (Rs key) vs) := by
    intro A s Q E X W R h
    refine enterC (k := N + 3) (x := Str.ofString "mid") (binds := [(Str.ofString "cards", .ref l)]) B B.fR W R (fun _ => rfl) (fun _ => rfl) (locs rfl) rfl rfl rfl rfl (fun _ => rfl) fun h0 tk0 oc hoc F0 R' => ?_
    have hls : ∀ {h : Heap} {m' : Str → Option Value} {o' : List (Addr × Obj)}, Fm G s.heap s.heap.objs.size m' o' h → h.IsList l vs.toArray := fun F' => let ⟨o, ho, r⟩ := hl; ⟨o, F'.old (X _ _ hlT ho) hlT, r⟩
    have hcs : ∀ {h : Heap} {m' : Str → Option Value} {o' : List (Addr × Obj)}, Fm G s.heap s.heap.objs.size m' o' h → ∀ v ∈ vs, Card h v (key v) (val v) := fun F' v hv => (hc v hv).ext (X.trans F'.keep)
    have F1 := F0.push (lst #[] 0)
    refine wpAny_execs_cons (wpAny_If (wpAny_isTrue_Compare1 (nm_l F0 rfl (wpAny_List (spliced_none ⟨by decide, ?_⟩)))))
    refine eq_dataH (list_reads (hls F1) (cards_reads (hcs F1))) (list_reads (vs := []) (PlainList.isList ⟨0, F1.get (.head _)⟩) .nil) (cards_shaped _) rfl R'.un64 (wpAny_truthy_bool ?_)
    cases hvs : vs with
    | nil =>
      subst hvs
      refine ite_pos rfl ?_
      refine wpAny_execs_cons (wpAny_Return_some (wpAny_List (spliced_none ⟨by decide, ?_⟩)))
      have F2 := F1.push (lst #[] 0)
      exact h _ _ _ F2.keep F2.wd ⟨_, [], rfl, Nat.le_of_lt (F2.nw _ (.head _)).2, .nil, ⟨0, F2.get (.head _)⟩⟩
    | cons v0 vr =>
      rw [← hvs]
      have hne : vs ≠ [] := by rw [hvs]; exact List.cons_ne_nil _ _
      refine ite_neg (by rw [hvs]; simp [PyData.eqv, PyData.eqvAll]) ?_
      refine wpAny_execs_nil ?_
      have hlen : 0 < vs.length := by rw [hvs]; exact Nat.succ_pos _
      have hix : vs.length / 2 < vs.length := Nat.div_lt_self hlen (by decide)
      have h1000 : vs.length ≤ 1000 := Nat.le_trans (Nat.le_trans hN hN2) (by decide)
      have hNk : N - 1 + 4 ≤ N + 3 := by omega
      have hN1 : N - 1 < N := by omega
      have h3N : 2 + 1 ≤ N + 3 := by omega
      have hcx := card_at hix (hcs F1)
      obtain ⟨ax, tx, ux, hx, nx, tupx⟩ := hcx
      refine wpAny_execs_cons (wpAny_Assign_Name (Subscript_ (Subscript_ (nm_l F1 rfl (wpAny_BinOp (callB (nm_b B F1 B.xLen B.bLen ⟨rfl, nm_l F1 rfl (len_list (hls F1) (size_fit (Nat.le_trans hN hN2)) (wpAny_Constant_int (floordiv_int (by decide) ?_)))⟩)))))))
      have hmix := mid_ix (Nat.le_trans hN hN2)
      obtain ⟨hfd, hfd0, hfd1⟩ := hmix
      refine tail_any (hls F1).typeIs slot_list_getitem.lookup (wpAny_getItem_list (hls F1) hfd0 hfd1 (x := .ref ax) (by rw [hfd]; simpa using hx) ?_) (by with_unfolding_all rfl)
      clear hfd hfd0 hfd1
      refine wpAny_Constant_int (item_tupleT (l := [.int (key (.ref ax)) tx, .int (val (.ref ax)) ux]) tupx (by decide) (by decide) (j := 0) rfl rfl ?_)
      refine wpAny_storeName_cell rfl rfl rfl ⟨oc, F1.get (.tail _ (.head _)), hoc⟩ fun h2 hcell hs2 => ?_
      obtain ⟨oc2, hoc2, hd2⟩ := hcell
      have F2 := (F1.sub (own' := [(s.heap.objs.size + 1, oc)]) (fun p hp => .tail _ hp)).upd hs2.extBut (fun p hp => nomatch hp) (cell_noCode hoc) hoc2
      generalize hmid : key (.ref ax) = mid at *
      have hL1 : s.heap.objs.size + 1 > 65 := Nat.lt_trans F2.big (Nat.lt_succ_self _)
      refine wpAny_execs_cons (Assign_Tuple (callF (nm_g B F2 B.nS ⟨21, rfl, spliced_more (nm_l F2 rfl (spliced_more ?_))⟩)))
      refine mk_lambda (clos := [(Str.ofString "mid", s.heap.objs.size + 1)]) B F2 rfl B.cR (.head _) rfl rfl rfl rfl fun f c' pm ctv h3 tk3 _ F3 hcT hrec => ?_
      have hf3 := F3.get (.head _)
      have hfT : ¬ IsTb f := notTb (Nat.lt_trans F3.big (F3.nw _ (.head _)).2)
      have hlam : ∀ v ∈ vs, Does prog w G h3 2 (.ref f) [v] (fun _ r _ => r = .bool (decide (key v < mid))) := by
        intro v hv A1 s1 Q1 E1 X1 W1 R1 k1
        have hcv := (hcs F3 v hv).ext X1
        obtain ⟨a1, t1, u1, rfl, n1, tup1⟩ := hcv
        refine enterLam (k := 1) (binds := [(Str.ofString "card", .ref a1)]) B (X1 _ _ hfT hf3) (let ⟨c2, o2, vs2, t2, e1, e2, e3⟩ := hrec; ⟨c2, o2, vs2, t2, e1, X1 _ _ (by cases e1; exact hcT) e2, e3⟩) W1 R1 rfl (by decide) (locs rfl) rfl rfl rfl fun h4 F4 R4 => ?_
        have tup4 : h4.IsTuple a1 #[.int (key (.ref a1)) t1, .int (val (.ref a1)) u1] := let ⟨o, ho, r⟩ := tup1; ⟨o, F4.old ho n1, r⟩
        have cell4 : h4.IsCell (s.heap.objs.size + 1) (some (.int mid tx)) := ⟨oc2, F4.old (X1 _ _ (notTb hL1) (F3.get (.tail _ (.head _)))) (notTb hL1), hd2⟩
        refine callF (nm_g B F4 B.nT ⟨28, rfl, spliced_more ?_⟩)
        refine wpAny_BinOp (wpAny_BinOp (Subscript_ (nm_l F4 rfl (wpAny_Constant_int (item_tupleT (l := [.int (key (.ref a1)) t1, .int (val (.ref a1)) u1]) tup4 (by decide) (by decide) (j := 0) rfl rfl ?_)))))
        refine nm_f (c := s.heap.objs.size + 1) rfl cell4 (sub_int (wpAny_Constant_int (add_int (spliced_none ⟨(IsFn.of B.fT).keeps F4.wd.st, ?_⟩))))
        refine does_T B _ _ _ _ _ _ (Ext.refl _) F4.wd R4 fun r h5 tk5 X5 W5 hr => ?_
        subst hr
        refine k1 _ _ _ (F4.keep.trans X5) W5 ?_
        exact congrArg Value.bool (dec_lt _ _)
      refine spliced_none ⟨(IsFn.of B.fS).keeps F3.wd.st, ?_⟩
      refine does_S B (h₁ := h3) (n := 2) (pd := fun v => decide (key v < mid)) (hls F3) hlT h1000 ⟨_, _, _, _, hf3⟩ hfT hlam _ _ _ _ (Ext.refl _) F3.wd (R'.le h3N) fun r h4 tk4 X4 W4 hr => ?_
      obtain ⟨t4, y, z, rfl, ft, fy, fz, htup, hy, hz⟩ := hr
      have F4 := ((F3.call X4 W4).sub (own' := [(s.heap.objs.size + 1, oc2)]) (fun p hp => .tail _ hp))
      obtain ⟨ny, ey⟩ := hy
      obtain ⟨nz, ez⟩ := hz
      have F4' := (F4.adopt ez (Nat.lt_of_lt_of_le F3.ns.lt fz)).adopt ey (Nat.lt_of_lt_of_le F3.ns.lt fy)
      refine wpAny_assign_Tuple R'.hd htup rfl rfl fun h5 hx5 => ?_
      have F5 := F4'.ext (h' := h5) (fun b o e => hx5 b o (Nat.ne_of_lt (Heap.lt_size e)) e)
      refine wpAny_assignInOrder_more (wpAny_assign_Name (st_l F5 fun h6 F6 => wpAny_assignInOrder_more (wpAny_assign_Name (st_l F6 fun h7 F7 => wpAny_assignInOrder_none ?_))))
      have hyT : ¬ IsTb y := notTb (Nat.lt_trans F7.big (F7.nw _ (.head _)).2)
      have hzT : ¬ IsTb z := notTb (Nat.lt_trans F7.big (F7.nw _ (.tail _ (.head _))).2)
      refine wpAny_execs_cons (Assign_Tuple (callF (nm_g B F7 B.nS ⟨21, rfl, spliced_more (nm_l F7 rfl (spliced_more ?_))⟩)))
      refine mk_lambda (clos := [(Str.ofString "mid", s.heap.objs.size + 1)]) B F7 rfl B.cR (.head _) rfl rfl rfl rfl fun f2 c2' pm2 ctv2 h8 tk8 _ F8 hcT2 hrec2 => ?_
      have hf8 := F8.get (.head _)
      have hf8T : ¬ IsTb f2 := notTb (Nat.lt_trans F8.big (F8.nw _ (.head _)).2)
      have hlam2 : ∀ v ∈ vs.filter (fun v => !decide (key v < mid)), Does prog w G h8 2 (.ref f2) [v] (fun _ r _ => r = .bool (decide (key v = mid))) := by
        intro v hv0 A1 s1 Q1 E1 X1 W1 R1 k1
        have hv := (List.mem_filter.mp hv0).1
        have hcv := (hcs F8 v hv).ext X1
        obtain ⟨a1, t1, u1, rfl, n1, tup1⟩ := hcv
        refine enterLam (k := 1) (binds := [(Str.ofString "card", .ref a1)]) B (X1 _ _ hf8T hf8) (let ⟨c2, o2, vs2, t2, e1, e2, e3⟩ := hrec2; ⟨c2, o2, vs2, t2, e1, X1 _ _ (by cases e1; exact hcT2) e2, e3⟩) W1 R1 rfl (by decide) (locs rfl) rfl rfl rfl fun h4 F4 R4 => ?_
        have tup4 : h4.IsTuple a1 #[.int (key (.ref a1)) t1, .int (val (.ref a1)) u1] := let ⟨o, ho, r⟩ := tup1; ⟨o, F4.old ho n1, r⟩
        have cell4 : h4.IsCell (s.heap.objs.size + 1) (some (.int mid tx)) := ⟨oc2, F4.old (X1 _ _ (notTb hL1) (F8.get (.tail _ (.tail _ (.tail _ (.head _)))))) (notTb hL1), hd2⟩
        refine callF (nm_g B F4 B.nE ⟨42, rfl, spliced_more ?_⟩)
        refine wpAny_BinOp (Subscript_ (nm_l F4 rfl (wpAny_Constant_int (item_tupleT (l := [.int (key (.ref a1)) t1, .int (val (.ref a1)) u1]) tup4 (by decide) (by decide) (j := 0) rfl rfl ?_))))
        refine nm_f (c := s.heap.objs.size + 1) rfl cell4 (sub_int (spliced_none ⟨(IsFn.of B.fE).keeps F4.wd.st, ?_⟩))
        refine does_E B _ _ _ _ _ _ (Ext.refl _) F4.wd R4 fun r h5 tk5 X5 W5 hr => ?_
        subst hr
        refine k1 _ _ _ (F4.keep.trans X5) W5 ?_
        exact congrArg Value.bool (dec_eq _ _)
      refine spliced_none ⟨(IsFn.of B.fS).keeps F8.wd.st, ?_⟩
      refine does_S B (h₁ := h8) (n := 2) (pd := fun v => decide (key v = mid)) (PlainList.isList ⟨nz, F8.get (.tail _ (.tail _ (.head _)))⟩) hzT (Nat.le_trans (List.length_filter_le _ _) h1000) ⟨_, _, _, _, hf8⟩ hf8T hlam2 _ _ _ _ (Ext.refl _) F8.wd (R'.le h3N) fun r h9 tk9 X9 W9 hr => ?_
      obtain ⟨t9, lv, ab, rfl, ft9, flv, fab, htup9, ⟨nlv, elv⟩, ⟨nab, eab⟩⟩ := hr
      rw [filt_eq] at elv
      rw [filt_gt] at eab
      have F9 := ((F8.call X9 W9).sub (own' := [(y, lst (vs.filter fun v => decide (key v < mid)).toArray ny)]) (fun p hp => by rw [List.mem_singleton.mp hp]; exact .tail _ (.head _)))
      have F9' := (F9.adopt eab (Nat.lt_of_lt_of_le F8.ns.lt fab)).adopt elv (Nat.lt_of_lt_of_le F8.ns.lt flv)
      refine wpAny_assign_Tuple R'.hd htup9 rfl rfl fun h10 hx10 => ?_
      have F10 := F9'.ext (h' := h10) (fun b o e => hx10 b o (Nat.ne_of_lt (Heap.lt_size e)) e)
      refine wpAny_assignInOrder_more (wpAny_assign_Name (st_l F10 fun h11 F11 => wpAny_assignInOrder_more (wpAny_assign_Name (st_l F11 fun h12 F12 => wpAny_assignInOrder_none ?_))))
      have hlvT : ¬ IsTb lv := notTb (Nat.lt_trans F12.big (F12.nw _ (.head _)).2)
      have habT : ¬ IsTb ab := notTb (Nat.lt_trans F12.big (F12.nw _ (.tail _ (.head _))).2)
      have hxm : Value.ref ax ∈ vs := List.mem_of_getElem? hx
      have s1 : (vs.filter fun v => decide (key v < mid)).length ≤ N - 1 := filter_short hxm (by rw [hmid]; exact decide_eq_false (Int.lt_irrefl _)) hN
      have s2 : (vs.filter fun v => decide (mid < key v)).length ≤ N - 1 := filter_short hxm (by rw [hmid]; exact decide_eq_false (Int.lt_irrefl _)) hN
      have l1 : (vs.filter fun v => decide (key v = mid)).length ≤ 20 := Nat.le_trans (List.length_filter_le _ _) (Nat.le_trans hN hN2)
      refine wpAny_execs_cons (wpAny_Return_some (wpAny_BinOp (wpAny_BinOp (callF (nm_g B F12 B.nR ⟨49, rfl, spliced_more (nm_l F12 rfl (spliced_none ⟨(IsFn.of B.fR).keeps F12.wd.st, ?_⟩))⟩)))))
      refine ih (N - 1) hN1 h12 y _ s1 (PlainList.isList ⟨ny, F12.get (.tail _ (.tail _ (.head _)))⟩) hyT (fun v hv => hcs F12 v ((List.mem_filter.mp hv).1)) _ _ _ _ (Ext.refl _) F12.wd (R'.le hNk) fun r h13 tk13 X13 W13 hr => ?_
      obtain ⟨r1, wa, rfl, fr1, rsa, ⟨nr1, er1⟩⟩ := hr
      have F13 := (F12.call X13 W13).adopt er1 (Nat.lt_of_lt_of_le F12.ns.lt fr1)
      refine nm_l F13 rfl ?_
      have hwa : wa.length ≤ 20 := Nat.le_trans (Nat.le_of_eq rsa.length) (Nat.le_trans s1 (Nat.le_trans (Nat.sub_le _ _) hN2))
      refine add_ls (⟨nr1, F13.get (.head _)⟩) (⟨nlv, F13.get (.tail _ (.head _))⟩) ?_ (Nat.le_trans (Nat.add_le_add hwa l1) (by decide))
      have F14 := F13.push { cls := .type "list", data := .seq (wa ++ vs.filter fun v => decide (key v = mid)).toArray }
      refine callF (nm_g B F14 B.nR ⟨49, rfl, spliced_more (nm_l F14 rfl (spliced_none ⟨(IsFn.of B.fR).keeps F14.wd.st, ?_⟩))⟩)
      refine ih (N - 1) hN1 _ ab _ s2 (PlainList.isList ⟨nab, F14.get (.tail _ (.tail _ (.tail _ (.head _))))⟩) habT (fun v hv => hcs F14 v (List.mem_filter.mp hv).1) _ _ _ _ (Ext.refl _) F14.wd (R'.le hNk) fun r h15 tk15 X15 W15 hr => ?_
      obtain ⟨r2, wb, rfl, fr2, rsb, ⟨nr2, er2⟩⟩ := hr
      have hwb : wb.length ≤ 20 := Nat.le_trans (Nat.le_of_eq rsb.length) (Nat.le_trans s2 (Nat.le_trans (Nat.sub_le _ _) hN2))
      have F15 := (F14.call X15 W15).adopt er2 (Nat.lt_of_lt_of_le F14.ns.lt fr2)
      refine add_ls (⟨0, F15.get (.tail _ (.head _))⟩) (⟨nr2, F15.get (.head _)⟩) ?_ (by rw [List.length_append]; exact Nat.le_trans (Nat.add_le_add (Nat.add_le_add hwa l1) hwb) (by decide))
      have F16 := F15.push { cls := .type "list", data := .seq ((wa ++ vs.filter fun v => decide (key v = mid)) ++ wb).toArray }
      exact h _ _ _ F16.keep F16.wd ⟨_, _, rfl, Nat.le_of_lt (F16.nw _ (.head _)).2, .cons mid hne rsa rsb, ⟨0, F16.get (.head _)⟩⟩

theorem does_R (B : Bs G mg mb) (key val : Value → Int) (N : Nat) : N ≤ 20 → ∀ (h₁ : Heap) (l : Addr) (vs : List Value), vs.length ≤ N → h₁.IsList l vs.toArray → ¬ IsTb l → (∀ v ∈ vs, Card h₁ v (key v) (val v)) →
    Does prog w G h₁ (N + 4) (.ref 49) [.ref l] (SortPost (Rs key) vs) := by
  induction N using Nat.strongRecOn with
  | ind N ih => exact fun hN h₁ l vs h1 h2 h3 h4 => does_R_step B key val N hN (fun N' h' => ih N' h' (Nat.le_trans (Nat.le_of_lt h') hN)) h₁ l vs h1 h2 h3 h4
end

section
variable {prog : Program} {w : World} {G : Heap} {mg mb : Str → Option Value}

set_option maxHeartbeats 4000000 in
theorem does_F_step (B : Bs G mg mb) (key val : Value → Int) (N : Nat) (hN2 : N ≤ 20)
    (ih : ∀ N', N' < N → ∀ (h₁ : Heap) (l : Addr) (vs : List Value), vs.length ≤ N' → h₁.IsList l vs.toArray → ¬ IsTb l → (∀ v ∈ vs, Card h₁ v (key v) (val v)) → Does prog w G h₁ (N' + 4) (.ref 56) [.ref l] (SortPost (Rs (fun v => -(key v))) vs))
    (h₁ : Heap) (l : Addr) (vs : List Value) (hN : vs.length ≤ N) (hl : h₁.IsList l vs.toArray) (hlT : ¬ IsTb l) (hc : ∀ v ∈ vs, Card h₁ v (key v) (val v)) :
    Does prog w G h₁ (N + 4) (.ref 56) [.ref l] (SortPost (Rs (fun v => -(key v))) vs) := by
    intro A s Q E X W R h
    refine enterC (k := N + 3) (x := Str.ofString "first") (binds := [(Str.ofString "cards", .ref l)]) B B.fF W R (fun _ => rfl) (fun _ => rfl) (locs rfl) rfl rfl rfl rfl (fun _ => rfl) fun h0 tk0 oc hoc F0 R' => ?_
    have hls : ∀ {h : Heap} {m' : Str → Option Value} {o' : List (Addr × Obj)}, Fm G s.heap s.heap.objs.size m' o' h → h.IsList l vs.toArray := fun F' => let ⟨o, ho, r⟩ := hl; ⟨o, F'.old (X _ _ hlT ho) hlT, r⟩
    have hcs : ∀ {h : Heap} {m' : Str → Option Value} {o' : List (Addr × Obj)}, Fm G s.heap s.heap.objs.size m' o' h → ∀ v ∈ vs, Card h v (key v) (val v) := fun F' v hv => (hc v hv).ext (X.trans F'.keep)
    have F1 := F0.push (lst #[] 0)
    refine wpAny_execs_cons (wpAny_If (wpAny_isTrue_Compare1 (nm_l F0 rfl (wpAny_List (spliced_none ⟨by decide, ?_⟩)))))
    refine eq_dataH (list_reads (hls F1) (cards_reads (hcs F1))) (list_reads (vs := []) (PlainList.isList ⟨0, F1.get (.head _)⟩) .nil) (cards_shaped _) rfl R'.un64 (wpAny_truthy_bool ?_)
    cases hvs : vs with
    | nil =>
      subst hvs
      refine ite_pos rfl ?_
      refine wpAny_execs_cons (wpAny_Return_some (wpAny_List (spliced_none ⟨by decide, ?_⟩)))
      have F2 := F1.push (lst #[] 0)
      exact h _ _ _ F2.keep F2.wd ⟨_, [], rfl, Nat.le_of_lt (F2.nw _ (.head _)).2, .nil, ⟨0, F2.get (.head _)⟩⟩
    | cons v0 vr =>
      rw [← hvs]
      have hne : vs ≠ [] := by rw [hvs]; exact List.cons_ne_nil _ _
      refine ite_neg (by rw [hvs]; simp [PyData.eqv, PyData.eqvAll]) ?_
      refine wpAny_execs_nil ?_
      have hlen : 0 < vs.length := by rw [hvs]; exact Nat.succ_pos _
      have h1000 : vs.length ≤ 1000 := Nat.le_trans (Nat.le_trans hN hN2) (by decide)
      have hNk : N - 1 + 4 ≤ N + 3 := by omega
      have hN1 : N - 1 < N := by omega
      have h3N : 2 + 1 ≤ N + 3 := by omega
      have hcx := card_at hlen (hcs F1)
      obtain ⟨ax, tx, ux, hx, nx, tupx⟩ := hcx
      refine wpAny_execs_cons (wpAny_Assign_Name (Subscript_ (Subscript_ (nm_l F1 rfl (wpAny_Constant_int ?_)))))
      refine tail_any (hls F1).typeIs slot_list_getitem.lookup (wpAny_getItem_list (hls F1) (by decide) (by decide) (x := .ref ax) (by simpa using hx) ?_) (by with_unfolding_all rfl)
      refine wpAny_Constant_int (item_tupleT (l := [.int (key (.ref ax)) tx, .int (val (.ref ax)) ux]) tupx (by decide) (by decide) (j := 0) rfl rfl ?_)
      refine wpAny_storeName_cell rfl rfl rfl ⟨oc, F1.get (.tail _ (.head _)), hoc⟩ fun h2 hcell hs2 => ?_
      obtain ⟨oc2, hoc2, hd2⟩ := hcell
      have F2 := (F1.sub (own' := [(s.heap.objs.size + 1, oc)]) (fun p hp => .tail _ hp)).upd hs2.extBut (fun p hp => nomatch hp) (cell_noCode hoc) hoc2
      generalize hmid : key (.ref ax) = fst at *
      have hL1 : s.heap.objs.size + 1 > 65 := Nat.lt_trans F2.big (Nat.lt_succ_self _)
      refine wpAny_execs_cons (Assign_Tuple (callF (nm_g B F2 B.nS ⟨21, rfl, spliced_more (nm_l F2 rfl (spliced_more ?_))⟩)))
      refine mk_lambda (clos := [(Str.ofString "first", s.heap.objs.size + 1)]) B F2 rfl B.cF (.tail _ (.head _)) rfl rfl rfl rfl fun f c' pm ctv h3 tk3 _ F3 hcT hrec => ?_
      have hf3 := F3.get (.head _)
      have hfT : ¬ IsTb f := notTb (Nat.lt_trans F3.big (F3.nw _ (.head _)).2)
      have hlam : ∀ v ∈ vs, Does prog w G h3 2 (.ref f) [v] (fun _ r _ => r = .bool (decide (-(key v) < -fst))) := by
        intro v hv A1 s1 Q1 E1 X1 W1 R1 k1
        have hcv := (hcs F3 v hv).ext X1
        obtain ⟨a1, t1, u1, rfl, n1, tup1⟩ := hcv
        refine enterLam (k := 1) (binds := [(Str.ofString "card", .ref a1)]) B (X1 _ _ hfT hf3) (let ⟨c2, o2, vs2, t2, e1, e2, e3⟩ := hrec; ⟨c2, o2, vs2, t2, e1, X1 _ _ (by cases e1; exact hcT) e2, e3⟩) W1 R1 rfl (by decide) (locs rfl) rfl rfl rfl fun h4 F4 R4 => ?_
        have tup4 : h4.IsTuple a1 #[.int (key (.ref a1)) t1, .int (val (.ref a1)) u1] := let ⟨o, ho, r⟩ := tup1; ⟨o, F4.old ho n1, r⟩
        have cell4 : h4.IsCell (s.heap.objs.size + 1) (some (.int fst tx)) := ⟨oc2, F4.old (X1 _ _ (notTb hL1) (F3.get (.tail _ (.head _)))) (notTb hL1), hd2⟩
        refine callF (nm_g B F4 B.nN ⟨35, rfl, spliced_more ?_⟩)
        refine wpAny_BinOp (wpAny_BinOp (Subscript_ (nm_l F4 rfl (wpAny_Constant_int (item_tupleT (l := [.int (key (.ref a1)) t1, .int (val (.ref a1)) u1]) tup4 (by decide) (by decide) (j := 0) rfl rfl ?_)))))
        refine nm_f (c := s.heap.objs.size + 1) rfl cell4 (sub_int (wpAny_Constant_int (add_int (spliced_none ⟨(IsFn.of B.fN).keeps F4.wd.st, ?_⟩))))
        refine does_N B _ _ _ _ _ _ (Ext.refl _) F4.wd R4 fun r h5 tk5 X5 W5 hr => ?_
        subst hr
        refine k1 _ _ _ (F4.keep.trans X5) W5 ?_
        exact congrArg Value.bool (dec_gt _ _)
      refine spliced_none ⟨(IsFn.of B.fS).keeps F3.wd.st, ?_⟩
      refine does_S B (h₁ := h3) (n := 2) (pd := fun v => decide (-(key v) < -fst)) (hls F3) hlT h1000 ⟨_, _, _, _, hf3⟩ hfT hlam _ _ _ _ (Ext.refl _) F3.wd (R'.le h3N) fun r h4 tk4 X4 W4 hr => ?_
      obtain ⟨t4, y, z, rfl, ft, fy, fz, htup, hy, hz⟩ := hr
      have F4 := ((F3.call X4 W4).sub (own' := [(s.heap.objs.size + 1, oc2)]) (fun p hp => .tail _ hp))
      obtain ⟨ny, ey⟩ := hy
      obtain ⟨nz, ez⟩ := hz
      have F4' := (F4.adopt ez (Nat.lt_of_lt_of_le F3.ns.lt fz)).adopt ey (Nat.lt_of_lt_of_le F3.ns.lt fy)
      refine wpAny_assign_Tuple R'.hd htup rfl rfl fun h5 hx5 => ?_
      have F5 := F4'.ext (h' := h5) (fun b o e => hx5 b o (Nat.ne_of_lt (Heap.lt_size e)) e)
      refine wpAny_assignInOrder_more (wpAny_assign_Name (st_l F5 fun h6 F6 => wpAny_assignInOrder_more (wpAny_assign_Name (st_l F6 fun h7 F7 => wpAny_assignInOrder_none ?_))))
      have hyT : ¬ IsTb y := notTb (Nat.lt_trans F7.big (F7.nw _ (.head _)).2)
      have hzT : ¬ IsTb z := notTb (Nat.lt_trans F7.big (F7.nw _ (.tail _ (.head _))).2)
      refine wpAny_execs_cons (Assign_Tuple (callF (nm_g B F7 B.nS ⟨21, rfl, spliced_more (nm_l F7 rfl (spliced_more ?_))⟩)))
      refine mk_lambda (clos := [(Str.ofString "first", s.heap.objs.size + 1)]) B F7 rfl B.cF (.tail _ (.head _)) rfl rfl rfl rfl fun f2 c2' pm2 ctv2 h8 tk8 _ F8 hcT2 hrec2 => ?_
      have hf8 := F8.get (.head _)
      have hf8T : ¬ IsTb f2 := notTb (Nat.lt_trans F8.big (F8.nw _ (.head _)).2)
      have hlam2 : ∀ v ∈ vs.filter (fun v => !decide (-(key v) < -fst)), Does prog w G h8 2 (.ref f2) [v] (fun _ r _ => r = .bool (decide (-(key v) = -fst))) := by
        intro v hv0 A1 s1 Q1 E1 X1 W1 R1 k1
        have hv := (List.mem_filter.mp hv0).1
        have hcv := (hcs F8 v hv).ext X1
        obtain ⟨a1, t1, u1, rfl, n1, tup1⟩ := hcv
        refine enterLam (k := 1) (binds := [(Str.ofString "card", .ref a1)]) B (X1 _ _ hf8T hf8) (let ⟨c2, o2, vs2, t2, e1, e2, e3⟩ := hrec2; ⟨c2, o2, vs2, t2, e1, X1 _ _ (by cases e1; exact hcT2) e2, e3⟩) W1 R1 rfl (by decide) (locs rfl) rfl rfl rfl fun h4 F4 R4 => ?_
        have tup4 : h4.IsTuple a1 #[.int (key (.ref a1)) t1, .int (val (.ref a1)) u1] := let ⟨o, ho, r⟩ := tup1; ⟨o, F4.old ho n1, r⟩
        have cell4 : h4.IsCell (s.heap.objs.size + 1) (some (.int fst tx)) := ⟨oc2, F4.old (X1 _ _ (notTb hL1) (F8.get (.tail _ (.tail _ (.tail _ (.head _)))))) (notTb hL1), hd2⟩
        refine callF (nm_g B F4 B.nE ⟨42, rfl, spliced_more ?_⟩)
        refine wpAny_BinOp (Subscript_ (nm_l F4 rfl (wpAny_Constant_int (item_tupleT (l := [.int (key (.ref a1)) t1, .int (val (.ref a1)) u1]) tup4 (by decide) (by decide) (j := 0) rfl rfl ?_))))
        refine nm_f (c := s.heap.objs.size + 1) rfl cell4 (sub_int (spliced_none ⟨(IsFn.of B.fE).keeps F4.wd.st, ?_⟩))
        refine does_E B _ _ _ _ _ _ (Ext.refl _) F4.wd R4 fun r h5 tk5 X5 W5 hr => ?_
        subst hr
        refine k1 _ _ _ (F4.keep.trans X5) W5 ?_
        exact congrArg Value.bool (dec_eq' _ _)
      refine spliced_none ⟨(IsFn.of B.fS).keeps F8.wd.st, ?_⟩
      refine does_S B (h₁ := h8) (n := 2) (pd := fun v => decide (-(key v) = -fst)) (PlainList.isList ⟨nz, F8.get (.tail _ (.tail _ (.head _)))⟩) hzT (Nat.le_trans (List.length_filter_le _ _) h1000) ⟨_, _, _, _, hf8⟩ hf8T hlam2 _ _ _ _ (Ext.refl _) F8.wd (R'.le h3N) fun r h9 tk9 X9 W9 hr => ?_
      obtain ⟨t9, lv, ab, rfl, ft9, flv, fab, htup9, ⟨nlv, elv⟩, ⟨nab, eab⟩⟩ := hr
      rw [filt_eq] at elv
      rw [filt_gt] at eab
      have F9 := ((F8.call X9 W9).sub (own' := [(y, lst (vs.filter fun v => decide (-(key v) < -fst)).toArray ny)]) (fun p hp => by rw [List.mem_singleton.mp hp]; exact .tail _ (.head _)))
      have F9' := (F9.adopt eab (Nat.lt_of_lt_of_le F8.ns.lt fab)).adopt elv (Nat.lt_of_lt_of_le F8.ns.lt flv)
      refine wpAny_assign_Tuple R'.hd htup9 rfl rfl fun h10 hx10 => ?_
      have F10 := F9'.ext (h' := h10) (fun b o e => hx10 b o (Nat.ne_of_lt (Heap.lt_size e)) e)
      refine wpAny_assignInOrder_more (wpAny_assign_Name (st_l F10 fun h11 F11 => wpAny_assignInOrder_more (wpAny_assign_Name (st_l F11 fun h12 F12 => wpAny_assignInOrder_none ?_))))
      have hlvT : ¬ IsTb lv := notTb (Nat.lt_trans F12.big (F12.nw _ (.head _)).2)
      have habT : ¬ IsTb ab := notTb (Nat.lt_trans F12.big (F12.nw _ (.tail _ (.head _))).2)
      have hxm : Value.ref ax ∈ vs := List.mem_of_getElem? hx
      have s1 : (vs.filter fun v => decide (-(key v) < -fst)).length ≤ N - 1 := filter_short hxm (by rw [hmid]; exact decide_eq_false (Int.lt_irrefl _)) hN
      have s2 : (vs.filter fun v => decide (-fst < -(key v))).length ≤ N - 1 := filter_short hxm (by rw [hmid]; exact decide_eq_false (Int.lt_irrefl _)) hN
      have l1 : (vs.filter fun v => decide (-(key v) = -fst)).length ≤ 20 := Nat.le_trans (List.length_filter_le _ _) (Nat.le_trans hN hN2)
      refine wpAny_execs_cons (wpAny_Return_some (wpAny_BinOp (wpAny_BinOp (callF (nm_g B F12 B.nF ⟨56, rfl, spliced_more (nm_l F12 rfl (spliced_none ⟨(IsFn.of B.fF).keeps F12.wd.st, ?_⟩))⟩)))))
      refine ih (N - 1) hN1 h12 y _ s1 (PlainList.isList ⟨ny, F12.get (.tail _ (.tail _ (.head _)))⟩) hyT (fun v hv => hcs F12 v ((List.mem_filter.mp hv).1)) _ _ _ _ (Ext.refl _) F12.wd (R'.le hNk) fun r h13 tk13 X13 W13 hr => ?_
      obtain ⟨r1, wa, rfl, fr1, rsa, ⟨nr1, er1⟩⟩ := hr
      have F13 := (F12.call X13 W13).adopt er1 (Nat.lt_of_lt_of_le F12.ns.lt fr1)
      refine nm_l F13 rfl ?_
      have hwa : wa.length ≤ 20 := Nat.le_trans (Nat.le_of_eq rsa.length) (Nat.le_trans s1 (Nat.le_trans (Nat.sub_le _ _) hN2))
      refine add_ls (⟨nr1, F13.get (.head _)⟩) (⟨nlv, F13.get (.tail _ (.head _))⟩) ?_ (Nat.le_trans (Nat.add_le_add hwa l1) (by decide))
      have F14 := F13.push { cls := .type "list", data := .seq (wa ++ vs.filter fun v => decide (-(key v) = -fst)).toArray }
      refine callF (nm_g B F14 B.nF ⟨56, rfl, spliced_more (nm_l F14 rfl (spliced_none ⟨(IsFn.of B.fF).keeps F14.wd.st, ?_⟩))⟩)
      refine ih (N - 1) hN1 _ ab _ s2 (PlainList.isList ⟨nab, F14.get (.tail _ (.tail _ (.tail _ (.head _))))⟩) habT (fun v hv => hcs F14 v (List.mem_filter.mp hv).1) _ _ _ _ (Ext.refl _) F14.wd (R'.le hNk) fun r h15 tk15 X15 W15 hr => ?_
      obtain ⟨r2, wb, rfl, fr2, rsb, ⟨nr2, er2⟩⟩ := hr
      have hwb : wb.length ≤ 20 := Nat.le_trans (Nat.le_of_eq rsb.length) (Nat.le_trans s2 (Nat.le_trans (Nat.sub_le _ _) hN2))
      have F15 := (F14.call X15 W15).adopt er2 (Nat.lt_of_lt_of_le F14.ns.lt fr2)
      refine add_ls (⟨0, F15.get (.tail _ (.head _))⟩) (⟨nr2, F15.get (.head _)⟩) ?_ (by rw [List.length_append]; exact Nat.le_trans (Nat.add_le_add (Nat.add_le_add hwa l1) hwb) (by decide))
      have F16 := F15.push { cls := .type "list", data := .seq ((wa ++ vs.filter fun v => decide (-(key v) = -fst)) ++ wb).toArray }
      exact h _ _ _ F16.keep F16.wd ⟨_, _, rfl, Nat.le_of_lt (F16.nw _ (.head _)).2, .cons (-fst) hne rsa rsb, ⟨0, F16.get (.head _)⟩⟩

theorem does_F (B : Bs G mg mb) (key val : Value → Int) (N : Nat) : N ≤ 20 → ∀ (h₁ : Heap) (l : Addr) (vs : List Value), vs.length ≤ N → h₁.IsList l vs.toArray → ¬ IsTb l → (∀ v ∈ vs, Card h₁ v (key v) (val v)) →
    Does prog w G h₁ (N + 4) (.ref 56) [.ref l] (SortPost (Rs (fun v => -(key v))) vs) := by
  induction N using Nat.strongRecOn with
  | ind N ih => exact fun hN h₁ l vs h1 h2 h3 h4 => does_F_step B key val N hN (fun N' h' => ih N' h' (Nat.le_trans (Nat.le_of_lt h') hN)) h₁ l vs h1 h2 h3 h4
end

/-- how many of the first k go ahead of x, the i-th -/
def cnt (kk : Value → Int) (vs : List Value) (x : Value) (i k : Nat) : Nat :=
  (vs.take k).countP (fun v => decide (kk v < kk x)) + (vs.take (min i k)).countP (fun v => decide (kk v = kk x))
theorem cnt_zero {kk : Value → Int} {vs : List Value} {x : Value} {i : Nat} : cnt kk vs x i 0 = 0 := by simp [cnt]
theorem cnt_step {kk : Value → Int} {vs : List Value} {x v : Value} {i k : Nat} (h : vs[k]? = some v) :
    cnt kk vs x i (k + 1) = cnt kk vs x i k + (if kk v < kk x ∨ (k < i ∧ kk v = kk x) then 1 else 0) := by
  unfold cnt
  have e1 : vs.take (k + 1) = vs.take k ++ [v] := by rw [List.take_add_one, h]; rfl
  rw [e1, List.countP_append]
  by_cases hi : k < i
  · rw [show min i (k + 1) = k + 1 by omega, show min i k = k by omega, e1, List.countP_append]
    by_cases a : kk v < kk x
    · have b : ¬ kk v = kk x := by omega
      simp [a, b]; omega
    · by_cases b : kk v = kk x
      · simp [b, hi]; omega
      · simp [a, b]
  · rw [show min i (k + 1) = i by omega, show min i k = i by omega]
    by_cases a : kk v < kk x
    · simp [a]; omega
    · simp [a, hi]
theorem cnt_lt_aux {kk : Value → Int} {x : Value} : ∀ l : List Value, l.countP (fun v => decide (kk v < kk x)) + l.countP (fun v => decide (kk v = kk x)) ≤ l.length
  | [] => by simp
  | v :: r => by
    have := cnt_lt_aux (kk := kk) (x := x) r
    simp only [List.countP_cons, List.length_cons, decide_eq_true_eq]
    by_cases a : kk v < kk x
    · have b : ¬ kk v = kk x := by omega
      simp only [a, b, if_true, if_false]; omega
    · by_cases b : kk v = kk x
      · rw [if_neg a, if_pos b]; omega
      · rw [if_neg a, if_neg b]; omega
theorem cnt_full {kk : Value → Int} {vs : List Value} {x : Value} {i : Nat} (h : vs[i]? = some x) : cnt kk vs x i vs.length = vs.countP (fun v => decide (kk v < kk x)) + (vs.take i).countP (fun v => decide (kk v = kk x)) := by
  have hi := (List.getElem?_eq_some_iff.mp h).1
  unfold cnt
  rw [List.take_length, show min i vs.length = i by omega]
theorem cnt_lt {kk : Value → Int} {vs : List Value} {x : Value} {i : Nat} (h : vs[i]? = some x) : cnt kk vs x i vs.length < vs.length := by
  rw [cnt_full h]
  obtain ⟨hi, hx⟩ := List.getElem?_eq_some_iff.mp h
  have e : vs = vs.take i ++ (x :: vs.drop (i + 1)) := by
    have e2 : vs.drop i = x :: vs.drop (i + 1) := by rw [List.drop_eq_getElem_cons hi, hx]
    rw [← e2, List.take_append_drop]
  have a := cnt_lt_aux (kk := kk) (x := x) vs
  have b : vs.countP (fun v => decide (kk v = kk x)) = (vs.take i).countP (fun v => decide (kk v = kk x)) + ((vs.drop (i + 1)).countP (fun v => decide (kk v = kk x)) + 1) := by
    conv => lhs; rw [e]
    rw [List.countP_append, List.countP_cons]
    simp
  omega

/-- the placed list behind i turns -/
def pu (kk : Value → Int) (vs : List Value) : Nat → List Value
  | 0 => vs
  | i + 1 => match vs[i]? with
    | some x => (pu kk vs i).set (cnt kk vs x i vs.length) x
    | none => pu kk vs i
theorem pu_length {kk : Value → Int} {vs : List Value} : ∀ i, (pu kk vs i).length = vs.length
  | 0 => rfl
  | i + 1 => by
    rw [pu]
    split
    · rw [List.length_set]; exact pu_length i
    · exact pu_length i

section
variable {prog : Program} {w : World} {A : Around} {s : Shared} {G h₀ : Heap} {L : Addr} {m : Str → Option Value} {own : List (Addr × Obj)} {env : Env} {x : Str} {px : Pos} {body : List Stmt} {Q : Flow → Shared → Prop}
theorem loop_range {r : Addr} {n : Nat} {t u v : Tok} (hh : A.handled = none) (hL : env.locals = L) (hx : env.kindOf x = some .local) (hk : env.scope.kind = .function)
    (F : Fm G h₀ L m own s.heap) (hr : IsRange s.heap r 0 n 1 t u v) (hn : n ≤ 1000) (J : Nat → (Str → Option Value) → List (Addr × Obj) → Prop) (j0 : J 0 m own)
    (turn : ∀ i ti m₁ own₁ h tk I oI, i < n → J i m₁ own₁ → (∀ p ∈ own₁, p.1 ≠ I) → Fm G h₀ L (fun y => if y = x then some (.int (i : Nat) ti) else m₁ y) ((I, oI) :: own₁) h →
      wpAny (model prog w) A (execs body env) (fun fl s' => fl = .next ∧ ∃ h' tk' m₂ own₂, s' = { s with heap := h', toks := tk' } ∧ J (i + 1) m₂ own₂ ∧ (∀ p ∈ own₂, p.1 ≠ I) ∧ Fm G h₀ L m₂ ((I, oI) :: own₂) h') (fun _ _ => False) { s with heap := h, toks := tk })
    (done : ∀ m₁ own₁ h tk, J n m₁ own₁ → Fm G h₀ L m₁ own₁ h → Q .next { s with heap := h, toks := tk }) :
    wpAny (model prog w) A (pyIter (.ref r)) (fun it s₂ => codeAny (model prog w) A (.forLoop (.Name x px) it body [] env) (fun r s' => match r with | .ok f => Q f s' | .error e => cameBackBy (model prog w) A env (fun _ _ => False) e s') s₂) (fun _ _ => False) s := by
  have hp : (env.scope.kind == .class || (env.scope.kind == .module && env.locals != env.globals)) = false := by rw [hk]; rfl
  subst hL
  refine wpAny_pyIter_range hr (small_one (by decide) (by decide) (by omega) (by omega)) ?_
  have hrs : Builtin.Range.rangeSize 0 n 1 = (n : Int) := by rw [rangeSize_one]; split <;> omega
  rw [hrs]
  refine codeAny_forLoop (R := fun r s' => match r with | .ok f => Q f s' | .error e => cameBackBy (model prog w) A env (fun _ _ => False) e s')
    (fun k s' => ∃ h' tk m' own' i, s' = { s with heap := h', toks := tk } ∧ J i m' own' ∧ i ≤ n ∧ k = n + 1 - i ∧ (∀ p ∈ own', p.1 ≠ s.heap.objs.size) ∧
      Fm G h₀ env.locals m' ((s.heap.objs.size, { cls := .type "range_iterator", dict := none, data := .fields #[rawInt (i : Nat), rawInt ((n : Int) - (i : Nat)), rawInt 1], slots := #[] }) :: own') h') ?_ (n + 1)
    ⟨_, s.toks, m, own, 0, rfl, j0, Nat.zero_le _, rfl, fun p hp => Nat.ne_of_lt (Heap.lt_size (F.nw p hp).1), F.push _⟩
  rintro k s' ⟨h', tk, m', own', i, rfl, hJ, hi, rfl, hne, F'⟩
  have hit : IsRangeIter h' s.heap.objs.size (i : Nat) ((n : Int) - (i : Nat)) 1 := F'.get (.head _)
  have nc : ∀ {a b c : Int}, NoCode { cls := .type "range_iterator", dict := none, data := .fields #[rawInt a, rawInt b, rawInt c], slots := #[] } := fun {_ _ _} vs' q t e => by cases e; intro e'; cases e'
  by_cases hlt : i < n
  · refine wpAny_pyNext_range_item hit (by omega) fun h₁ hit₁ hs₁ => ?_
    have e1 : ((i : Nat) : Int) + 1 = ((i + 1 : Nat) : Int) := by omega
    have e2 : (n : Int) - ((i : Nat) : Int) - 1 = (n : Int) - ((i + 1 : Nat) : Int) := by omega
    rw [e1, e2] at hit₁
    have F₁ := F'.upd hs₁.extBut hne nc hit₁
    refine wpAny_assign_Name (wpAny_storeName_local hx F₁.ns (fun h₂ hn₂ hs₂ => ?_) hp)
    have F₂ := F₁.store hn₂ hs₂
    refine wpAny_mono (turn i _ m' own' h₂ _ _ _ hlt hJ hne F₂) (fun fl s₃ h₃ => ?_) fun _ _ e => e.elim
    obtain ⟨rfl, h₃, tk₃, m₂, own₂, rfl, hJ₂, hne₂, F₃⟩ := h₃
    exact ⟨n + 1 - (i + 1), by omega, h₃, tk₃, m₂, own₂, i + 1, rfl, hJ₂, hlt, rfl, hne₂, F₃⟩
  · have hin : i = n := by omega
    refine wpAny_pyNext_range_end hh hit (by omega) fun h₁ he₁ => wpAny_execs_nil ?_
    exact done m' own' h₁ tk (hin ▸ hJ) (F'.but he₁ hne nc)
end

section
variable {prog : Program} {w : World} {G : Heap} {mg mb : Str → Option Value}

theorem seq_noCode {o : Obj} {xs : Array Value} {n : Nat} (e : o.data = .seq xs n) : NoCode o := fun _ _ _ q => by rw [e] at q; cases q

set_option maxHeartbeats 4000000 in
theorem does_P (B : Bs G mg mb) (key val : Value → Int) (σ : Int → Int) (hσ : ∀ a b, σ a = σ b → a = b) {h₁ : Heap} {l p : Addr} {vs : List Value} {n : Nat} (hl : h₁.IsList l vs.toArray) (hlT : ¬ IsTb l) (hsz : vs.length ≤ 20)
    (hc : ∀ v ∈ vs, Card h₁ v (key v) (val v)) (hf : IsFn h₁ p) (hpT : ¬ IsTb p) (hp : ∀ a t b u, Does prog w G h₁ n (.ref p) [.int a t, .int b u] (fun _ r _ => r = .bool (decide (σ a < σ b)))) :
    Does prog w G h₁ (n + 1) (.ref 63) [.ref l, .ref p] (fun h r h' => ∃ a, r = .ref a ∧ h.objs.size ≤ a ∧ h'.IsList a (pu (fun v => σ (key v)) vs vs.length).toArray) := by
  intro A s Q E X W R h
  refine enter (k := n) (binds := [(Str.ofString "cards", .ref l), (Str.ofString "ahead", .ref p)]) B.fP B.lim B.bg W R (fun _ => rfl) (by decide) (locs rfl) rfl rfl rfl fun h0 F0 R' => ?_
  have hls : ∀ {h : Heap} {m' : Str → Option Value} {o' : List (Addr × Obj)}, Fm G s.heap s.heap.objs.size m' o' h → h.IsList l vs.toArray := fun F' => let ⟨o, ho, r⟩ := hl; ⟨o, F'.old (X _ _ hlT ho) hlT, r⟩
  have hcs : ∀ {h : Heap} {m' : Str → Option Value} {o' : List (Addr × Obj)}, Fm G s.heap s.heap.objs.size m' o' h → ∀ v ∈ vs, Card h v (key v) (val v) := fun F' v hv => (hc v hv).ext (X.trans F'.keep)
  have hfit : (vs.toArray.size : Int) < 2 ^ 63 := by rw [List.size_toArray]; omega
  obtain ⟨ol, hol, hoc, nl, hod⟩ := hls F0
  refine wpAny_execs_cons (wpAny_Assign_Name (callT (nm_b B F0 B.xList B.bList ⟨rfl, nm_l F0 rfl ?_⟩)))
  refine call_list_seq l (.inl rfl) hol hoc hod (fun h1 c1 hk1 hD => ?_) (by rw [List.size_toArray]; exact Nat.le_trans hsz (by decide))
  have F1 := (F0.ext hk1).adopt hD F0.ns.lt
  generalize h0.objs.size = P at *
  refine st_l F1 fun h2 F2 => ?_
  refine wpAny_execs_cons (wpAny_For (callT (nm_b B F2 B.xRange B.bRange ⟨rfl, callB (nm_b B F2 B.xLen B.bLen ⟨rfl, nm_l F2 rfl (len_list (hls F2) hfit (call_range_1 ?_))⟩)⟩)))
  refine loop_range (n := vs.length) R'.hd rfl rfl rfl ((F2.push _).sub (own' := [(P, lst vs.toArray c1)]) (fun q hq => .tail _ hq)) (IsRange.new _ 0 _ 1 _ _ _) (by omega)
    (fun i m own => m (Str.ofString "cards") = some (.ref l) ∧ m (Str.ofString "ahead") = some (.ref p) ∧ m (Str.ofString "placed") = some (.ref P) ∧
      ∃ oP nP, oP.cls = .type "list" ∧ oP.data = .seq (pu (fun v => σ (key v)) vs i).toArray nP ∧ own = [(P, oP)])
    ⟨rfl, rfl, rfl, _, _, rfl, rfl, rfl⟩ ?_ ?_
  · rintro i ti m₁ own₁ h4 tk4 I oI hi ⟨e1, e2, e3, oP, nP, cP, dP, rfl⟩ hne F4
    have hcx := hcs F4
    have hcw := card_at hi hcx
    obtain ⟨ax, tx, ux, hx, nx, tupx⟩ := hcw
    have hPI : P ≠ I := hne _ (.head _)
    refine wpAny_execs_cons (wpAny_Assign_Name (wpAny_Constant_int (st_l F4 fun h5 F5 => ?_)))
    refine wpAny_execs_cons (wpAny_For (callT (nm_b B F5 B.xRange B.bRange ⟨rfl, callB (nm_b B F5 B.xLen B.bLen ⟨rfl, nm_l F5 ((if_neg (by decide)).trans ((if_neg (by decide)).trans e1)) (len_list (hls F5) hfit (call_range_1 ?_))⟩)⟩)))
    refine loop_range (n := vs.length) R'.hd rfl rfl rfl ((F5.push _).sub (own' := [(I, oI), (P, oP)]) (fun q hq => .tail _ hq)) (IsRange.new _ 0 _ 1 _ _ _) (by omega)
      (fun j m own => m (Str.ofString "cards") = some (.ref l) ∧ m (Str.ofString "ahead") = some (.ref p) ∧ m (Str.ofString "placed") = some (.ref P) ∧ m (Str.ofString "i") = some (.int (i : Nat) ti) ∧
        (∃ tp, m (Str.ofString "place") = some (.int (cnt (fun v => σ (key v)) vs (.ref ax) i j : Nat) tp)) ∧ own = [(I, oI), (P, oP)])
      ⟨(if_neg (by decide)).trans ((if_neg (by decide)).trans e1), (if_neg (by decide)).trans ((if_neg (by decide)).trans e2), (if_neg (by decide)).trans ((if_neg (by decide)).trans e3), (if_neg (by decide)).trans (if_pos rfl), ⟨_, (if_pos rfl).trans (by rw [cnt_zero]; rfl)⟩, rfl⟩ ?_ ?_
    · rintro j tj m₂ own₂ h6 tk6 I2 oI2 hj ⟨g1, g2, g3, g4, ⟨tp, g5⟩, rfl⟩ hne2 F6
      have hcy := hcs F6
      have hcz := card_at hj hcy
      obtain ⟨ay, ty, uy, hy, ny, tupy⟩ := hcz
      have hmc : ∃ mc : Str → Option Value, mc = (fun y => if y = Str.ofString "j" then some (.int (j : Nat) tj) else m₂ y) := ⟨_, rfl⟩
      obtain ⟨mc, hmc⟩ := hmc
      rw [← hmc] at F6
      have lk : ∀ {z : Str} {v : Value}, z ≠ Str.ofString "j" → m₂ z = some v → mc z = some v := fun hz e => by rw [hmc]; exact (if_neg hz).trans e
      have lj : mc (Str.ofString "j") = some (.int (j : Nat) tj) := by rw [hmc]; exact if_pos rfl
      clear hmc
      have k1 := lk (by decide) g1
      have k2 := lk (by decide) g2
      have k3 := lk (by decide) g3
      have k4 := lk (by decide) g4
      have k5 := lk (by decide) g5
      clear lk
      have fi : ((i : Nat) : Int) < 2 ^ 63 := by omega
      have fj : ((j : Nat) : Int) < 2 ^ 63 := by omega
      have tx6 : ∀ {h : Heap} {m' : Str → Option Value} {o' : List (Addr × Obj)}, Fm G s.heap s.heap.objs.size m' o' h → ∃ t u, h.IsTuple ax #[.int (key (.ref ax)) t, .int (val (.ref ax)) u] := fun F' => by
        have := hcs F' _ (List.mem_of_getElem? hx)
        obtain ⟨a, t, u, e, _, r⟩ := this
        cases e; exact ⟨t, u, r⟩
      have ty6 : ∀ {h : Heap} {m' : Str → Option Value} {o' : List (Addr × Obj)}, Fm G s.heap s.heap.objs.size m' o' h → ∃ t u, h.IsTuple ay #[.int (key (.ref ay)) t, .int (val (.ref ay)) u] := fun F' => by
        have := hcs F' _ (List.mem_of_getElem? hy)
        obtain ⟨a, t, u, e, _, r⟩ := this
        cases e; exact ⟨t, u, r⟩
      have tx6' := tx6 F6
      have ty6' := ty6 F6
      obtain ⟨tx', ux', tupx'⟩ := tx6'
      obtain ⟨ty', uy', tupy'⟩ := ty6'
      refine wpAny_execs_cons (wpAny_If (wpAny_mono (Q := fun b s' => ∃ h7 tk7, s' = { s with heap := h7, toks := tk7 } ∧ b = decide (σ (key (.ref ay)) < σ (key (.ref ax)) ∨ (j < i ∧ σ (key (.ref ay)) = σ (key (.ref ax)))) ∧ Fm G s.heap s.heap.objs.size mc [(I2, oI2), (I, oI), (P, oP)] h7) ?_ ?_ (fun _ _ e => e)))
      · refine wpAny_isTrue_BoolOp (wpAny_allTrue_Or_cons (isTrue_plain (callF (nm_l F6 k2 ⟨p, rfl, spliced_more (Subscript_ (Subscript_ (nm_l F6 k1 (nm_l F6 lj ?_))))⟩))))
        refine tail_any (hls F6).typeIs slot_list_getitem.lookup (wpAny_getItem_list (hls F6) (Int.natCast_nonneg _) fj (x := .ref ay) (by simpa using hy) ?_) (by with_unfolding_all rfl)
        refine wpAny_Constant_int (item_tupleT (l := [.int (key (.ref ay)) ty', .int (val (.ref ay)) uy']) tupy' (by decide) (by decide) (j := 0) rfl rfl ?_)
        refine spliced_more (Subscript_ (Subscript_ (nm_l F6 k1 (nm_l F6 k4 ?_))))
        refine tail_any (hls F6).typeIs slot_list_getitem.lookup (wpAny_getItem_list (hls F6) (Int.natCast_nonneg _) fi (x := .ref ax) (by simpa using hx) ?_) (by with_unfolding_all rfl)
        refine wpAny_Constant_int (item_tupleT (l := [.int (key (.ref ax)) tx', .int (val (.ref ax)) ux']) tupx' (by decide) (by decide) (j := 0) rfl rfl ?_)
        refine spliced_none ⟨hf.ext hpT (X.trans F6.keep), ?_⟩
        refine hp _ _ _ _ _ _ _ _ (X.trans F6.keep) F6.wd R' fun r h7 tk7 X7 W7 hr => ?_
        subst hr
        have F7 := F6.call X7 W7
        refine wpAny_truthy_bool ?_
        by_cases ha : σ (key (.ref ay)) < σ (key (.ref ax))
        · refine ite_pos (decide_eq_true ha) ?_
          exact ⟨h7, tk7, rfl, (decide_eq_true (.inl ha)).symm, F7⟩
        · refine ite_neg (by rw [decide_eq_false ha]; exact Bool.false_ne_true) ?_
          refine wpAny_allTrue_Or_cons (wpAny_isTrue_BoolOp (wpAny_allTrue_And_cons (wpAny_isTrue_Compare1 (nm_l F7 lj (nm_l F7 k4 (lt_int (wpAny_truthy_bool ?_)))))))
          by_cases hji : j < i
          · refine ite_pos (decide_eq_true (by omega)) ?_
            have tx7 := tx6 F7
            have ty7 := ty6 F7
            obtain ⟨tx8, ux8, tupx8⟩ := tx7
            obtain ⟨ty8, uy8, tupy8⟩ := ty7
            refine wpAny_allTrue_And_cons (wpAny_isTrue_Compare1 (Subscript_ (Subscript_ (nm_l F7 k1 (nm_l F7 lj ?_)))))
            refine tail_any (hls F7).typeIs slot_list_getitem.lookup (wpAny_getItem_list (hls F7) (Int.natCast_nonneg _) fj (x := .ref ay) (by simpa using hy) ?_) (by with_unfolding_all rfl)
            refine wpAny_Constant_int (item_tupleT (l := [.int (key (.ref ay)) ty8, .int (val (.ref ay)) uy8]) tupy8 (by decide) (by decide) (j := 0) rfl rfl ?_)
            refine Subscript_ (Subscript_ (nm_l F7 k1 (nm_l F7 k4 ?_)))
            refine tail_any (hls F7).typeIs slot_list_getitem.lookup (wpAny_getItem_list (hls F7) (Int.natCast_nonneg _) fi (x := .ref ax) (by simpa using hx) ?_) (by with_unfolding_all rfl)
            refine wpAny_Constant_int (item_tupleT (l := [.int (key (.ref ax)) tx8, .int (val (.ref ax)) ux8]) tupx8 (by decide) (by decide) (j := 0) rfl rfl ?_)
            refine eq_int (wpAny_truthy_bool ?_)
            by_cases hq : key (.ref ay) = key (.ref ax)
            · refine ite_pos (beq_iff_eq.mpr hq) (wpAny_allTrue_And_nil (ite_pos rfl ?_))
              exact ⟨h7, _, rfl, (decide_eq_true (.inr ⟨hji, by rw [hq]⟩)).symm, F7⟩
            · refine ite_neg (fun e => hq (beq_iff_eq.mp e)) (ite_neg Bool.false_ne_true (wpAny_allTrue_Or_nil ?_))
              exact ⟨h7, _, rfl, (decide_eq_false (fun e => e.elim ha fun e => hq (hσ _ _ e.2))).symm, F7⟩
          · refine ite_neg (by rw [decide_eq_false (by omega)]; exact Bool.false_ne_true) (ite_neg Bool.false_ne_true (wpAny_allTrue_Or_nil ?_))
            exact ⟨h7, _, rfl, (decide_eq_false (fun e => e.elim ha fun e => hji e.1)).symm, F7⟩
      · rintro b s' ⟨h7, tk7, rfl, hb, F7⟩
        have hstep := cnt_step (kk := fun v => σ (key v)) (x := .ref ax) (i := i) hy
        by_cases hcond : σ (key (.ref ay)) < σ (key (.ref ax)) ∨ (j < i ∧ σ (key (.ref ay)) = σ (key (.ref ax)))
        · rw [if_pos hcond] at hstep
          refine ite_pos (hb.trans (decide_eq_true hcond)) ?_
          refine wpAny_execs_cons (wpAny_Assign_Name (wpAny_BinOp (nm_l F7 k5 (wpAny_Constant_int (add_int (st_l F7 fun h8 F8 => ?_))))))
          refine wpAny_execs_nil (wpAny_execs_nil ⟨rfl, h8, _, _, _, rfl, ⟨?_, ?_, ?_, ?_, ?_, rfl⟩, hne2, F8⟩)
          · exact (if_neg (by decide)).trans k1
          · exact (if_neg (by decide)).trans k2
          · exact (if_neg (by decide)).trans k3
          · exact (if_neg (by decide)).trans k4
          · exact ⟨_, (if_pos rfl).trans (by rw [hstep]; rfl)⟩
        · rw [if_neg hcond] at hstep
          refine ite_neg (by rw [hb, decide_eq_false hcond]; exact Bool.false_ne_true) ?_
          exact wpAny_execs_nil (wpAny_execs_nil ⟨rfl, h7, _, mc, _, rfl, ⟨k1, k2, k3, k4, ⟨tp, hstep ▸ k5⟩, rfl⟩, hne2, F7⟩)
    · rintro m₂ own₂ h6 tk6 ⟨g1, g2, g3, g4, ⟨tp, g5⟩, rfl⟩ F6
      have hcl := cnt_lt (kk := fun v => σ (key v)) hx
      have fi : ((i : Nat) : Int) < 2 ^ 63 := by omega
      have fc : ((cnt (fun v => σ (key v)) vs (.ref ax) i vs.length : Nat) : Int) < 2 ^ 63 := by omega
      have hpl := pu_length (kk := fun v => σ (key v)) (vs := vs) i
      have hlP : h6.IsList P (pu (fun v => σ (key v)) vs i).toArray := ⟨oP, F6.get (.tail _ (.head _)), cP, nP, dP⟩
      refine wpAny_execs_cons (wpAny_Assign_Subscript (Subscript_ (nm_l F6 g1 (nm_l F6 g4 ?_))))
      refine tail_any (hls F6).typeIs slot_list_getitem.lookup (wpAny_getItem_list (hls F6) (Int.natCast_nonneg _) fi (x := .ref ax) (by simpa using hx) ?_) (by with_unfolding_all rfl)
      refine nm_l F6 g3 (nm_l F6 g5 (wpAny_setItem_list hlP (Int.natCast_nonneg _) fc (by rw [List.size_toArray, hpl]; omega) fun h8 hl8 hs8 => ?_))
      obtain ⟨oP8, ho8, hc8, n8, hd8⟩ := hl8
      have F8 := (F6.sub (own' := [(P, oP), (I, oI)]) (by intro q hq; simp only [List.mem_cons, List.not_mem_nil, or_false] at hq ⊢; exact hq.symm)).upd hs8.extBut (by intro q hq; rw [List.mem_singleton.mp hq]; exact hPI.symm) (seq_noCode dP) ho8
      refine wpAny_execs_nil ⟨rfl, h8, _, m₂, [(P, oP8)], rfl, ⟨g1, g2, g3, oP8, n8, hc8, ?_, rfl⟩, (fun q hq => by rw [List.mem_singleton.mp hq]; exact hPI), F8.sub (by intro q hq; simp only [List.mem_cons, List.not_mem_nil, or_false] at hq ⊢; exact hq.symm)⟩
      rw [hd8, pu, hx]
      simp
  · rintro m₁ own₁ h4 tk4 ⟨e1, e2, e3, oP, nP, cP, dP, rfl⟩ F4
    refine wpAny_execs_cons (wpAny_Return_some (nm_l F4 e3 ?_))
    exact h _ _ _ F4.keep F4.wd ⟨P, rfl, Nat.le_of_lt (F4.nw _ (.head _)).2, ⟨oP, F4.get (.head _), cP, nP, dP⟩⟩
end

def ix (kk : Value → Int) (vs pre : List Value) (v : Value) : Nat := vs.countP (fun a => decide (kk a < kk v)) + pre.countP (fun a => decide (kk a = kk v))

theorem countP_of_filter {p q : Value → Bool} {l : List Value} (h : ∀ a ∈ l, q a = true → p a = true) : (l.filter p).countP q = l.countP q := by
  rw [List.countP_filter]
  refine List.countP_congr fun a ha => ?_
  constructor
  · intro e; exact (Bool.and_eq_true_iff.mp e).1
  · intro e; rw [e, h a ha e]; rfl

theorem count_three {kk : Value → Int} {mid : Int} {v : Value} (hv : mid < kk v) : ∀ l : List Value, l.countP (fun a => decide (kk a < kk v)) =
    (l.filter fun a => decide (kk a < mid)).length + (l.filter fun a => decide (kk a = mid)).length + (l.filter fun a => decide (mid < kk a)).countP (fun a => decide (kk a < kk v))
  | [] => rfl
  | a :: r => by
    have ih := count_three (kk := kk) hv r
    rcases Int.lt_trichotomy (kk a) mid with h | h | h
    · have h2 : ¬ kk a = mid := by omega
      have h3 : ¬ mid < kk a := by omega
      have h4 : kk a < kk v := by omega
      simp only [List.countP_cons, List.filter_cons, h, h2, h3, h4, decide_true, decide_false, if_true, Bool.false_eq_true, if_false, List.length_cons, ih]; omega
    · have h2 : ¬ kk a < mid := by omega
      have h3 : ¬ mid < kk a := by omega
      have h4 : kk a < kk v := by omega
      rw [List.countP_cons, if_pos (decide_eq_true h4), List.filter_cons, if_neg (by rw [decide_eq_false h2]; exact Bool.false_ne_true), List.filter_cons, if_pos (decide_eq_true h), List.filter_cons, if_neg (by rw [decide_eq_false h3]; exact Bool.false_ne_true), List.length_cons, ih]; omega
    · have h2 : ¬ kk a < mid := by omega
      have h3 : ¬ kk a = mid := by omega
      by_cases h4 : kk a < kk v
      · simp only [List.countP_cons, List.filter_cons, h, h2, h3, h4, decide_true, decide_false, if_true, Bool.false_eq_true, if_false, ih]; omega
      · simp only [List.countP_cons, List.filter_cons, h, h2, h3, h4, decide_true, decide_false, if_true, Bool.false_eq_true, if_false, ih]; omega

theorem split_filter {p : Value → Bool} {vs pre' post' : List Value} {v : Value} (h : vs.filter p = pre' ++ v :: post') : ∃ pre post, vs = pre ++ v :: post ∧ pre.filter p = pre' := by
  obtain ⟨a, b, e1, e2, e3⟩ := List.filter_eq_append_iff.mp h
  obtain ⟨c, d, e4, e5, e6, e7⟩ := List.filter_eq_cons_iff.mp e3
  refine ⟨a ++ c, d, by rw [e1, e4, List.append_assoc], ?_⟩
  rw [List.filter_append, e2, List.filter_eq_nil_iff.mpr e5, List.append_nil]
theorem filter_split {p : Value → Bool} {vs pre post : List Value} {v : Value} (h : vs = pre ++ v :: post) (hp : p v = true) : vs.filter p = pre.filter p ++ v :: post.filter p := by
  rw [h, List.filter_append, List.filter_cons, if_pos hp]

section
variable {kk : Value → Int} {mid : Int} {vs pre : List Value} {v : Value}
theorem ix_lt (hv : kk v < mid) : ix kk vs pre v = ix kk (vs.filter fun a => decide (kk a < mid)) (pre.filter fun a => decide (kk a < mid)) v := by
  unfold ix
  rw [countP_of_filter, countP_of_filter]
  · intro a _ e; exact decide_eq_true (by have := of_decide_eq_true e; omega)
  · intro a _ e; exact decide_eq_true (by have := of_decide_eq_true e; omega)
theorem ix_eq (hv : kk v = mid) : ix kk vs pre v = (vs.filter fun a => decide (kk a < mid)).length + (pre.filter fun a => decide (kk a = mid)).length := by
  unfold ix
  rw [hv, List.countP_eq_length_filter, List.countP_eq_length_filter]
theorem ix_gt (hv : mid < kk v) : ix kk vs pre v = (vs.filter fun a => decide (kk a < mid)).length + (vs.filter fun a => decide (kk a = mid)).length + ix kk (vs.filter fun a => decide (mid < kk a)) (pre.filter fun a => decide (mid < kk a)) v := by
  unfold ix
  rw [count_three hv vs, countP_of_filter (l := pre)]
  · omega
  · intro a _ e; exact decide_eq_true (by have := of_decide_eq_true e; omega)
end

theorem rs_at {kk : Value → Int} {vs ws : List Value} (x : Rs kk vs ws) : ∀ pre v post, vs = pre ++ v :: post → ws[ix kk vs pre v]? = some v := by
  induction x with
  | nil => intro pre v post e; simp at e
  | cons mid hne ra rb iha ihb =>
    rename_i vs a b
    intro pre v post e
    have la := ra.length
    rcases Int.lt_trichotomy (kk v) mid with h | h | h
    · have := iha _ v _ (filter_split e (decide_eq_true h))
      rw [← ix_lt h] at this
      have hlt := (List.getElem?_eq_some_iff.mp this).1
      rw [List.append_assoc, List.getElem?_append_left hlt]
      exact this
    · have := filter_split (p := fun a => decide (kk a = mid)) e (decide_eq_true h)
      rw [ix_eq h, ← la, List.append_assoc, List.getElem?_append_right (Nat.le_add_right _ _), Nat.add_sub_cancel_left, this, List.append_assoc, List.getElem?_append_right (Nat.le_refl _), Nat.sub_self]
      rfl
    · have := ihb _ v _ (filter_split e (decide_eq_true h))
      rw [ix_gt h, ← la, List.append_assoc, Nat.add_assoc, List.getElem?_append_right (Nat.le_add_right _ _), Nat.add_sub_cancel_left, List.getElem?_append_right (Nat.le_add_right _ _), Nat.add_sub_cancel_left]
      exact this

theorem rs_onto {kk : Value → Int} {vs ws : List Value} (x : Rs kk vs ws) : ∀ q, q < ws.length → ∃ pre v post, vs = pre ++ v :: post ∧ ix kk vs pre v = q := by
  induction x with
  | nil => intro q h; exact absurd h (Nat.not_lt_zero _)
  | cons mid hne ra rb iha ihb =>
    rename_i vs a b
    intro q hq
    have la := ra.length
    rw [List.length_append, List.length_append] at hq
    by_cases h1 : q < a.length
    · obtain ⟨pre', v, post', e, hi⟩ := iha q h1
      obtain ⟨pre, post, e2, e3⟩ := split_filter e
      have hv : v ∈ vs.filter fun a => decide (kk a < mid) := by rw [e]; exact List.mem_append_right _ (.head _)
      have hv2 := of_decide_eq_true (List.mem_filter.mp hv).2
      exact ⟨pre, v, post, e2, by rw [ix_lt hv2, e3]; exact hi⟩
    · by_cases h2 : q < a.length + (vs.filter fun v => decide (kk v = mid)).length
      · have hlt : q - a.length < (vs.filter fun v => decide (kk v = mid)).length := by omega
        have e : vs.filter (fun v => decide (kk v = mid)) = (vs.filter fun v => decide (kk v = mid)).take (q - a.length) ++ (vs.filter fun v => decide (kk v = mid))[q - a.length] :: (vs.filter fun v => decide (kk v = mid)).drop (q - a.length + 1) := by
          rw [← List.drop_eq_getElem_cons hlt, List.take_append_drop]
        obtain ⟨pre, post, e2, e3⟩ := split_filter e
        have hv2 : kk ((vs.filter fun v => decide (kk v = mid))[q - a.length]) = mid := of_decide_eq_true (List.mem_filter.mp (List.getElem_mem hlt)).2
        refine ⟨pre, _, post, e2, ?_⟩
        rw [ix_eq hv2, e3, List.length_take]; omega
      · obtain ⟨pre', v, post', e, hi⟩ := ihb (q - a.length - (vs.filter fun v => decide (kk v = mid)).length) (by omega)
        obtain ⟨pre, post, e2, e3⟩ := split_filter e
        have hv : v ∈ vs.filter fun a => decide (mid < kk a) := by rw [e]; exact List.mem_append_right _ (.head _)
        have hv2 := of_decide_eq_true (List.mem_filter.mp hv).2
        exact ⟨pre, v, post, e2, by rw [ix_gt hv2, e3, hi]; omega⟩

theorem at_split {vs : List Value} {i : Nat} {x : Value} (h : vs[i]? = some x) : vs = vs.take i ++ x :: vs.drop (i + 1) := by
  obtain ⟨hi, hx⟩ := List.getElem?_eq_some_iff.mp h
  rw [← hx, ← List.drop_eq_getElem_cons hi, List.take_append_drop]
theorem cnt_ix {kk : Value → Int} {vs : List Value} {x : Value} {i : Nat} (h : vs[i]? = some x) : cnt kk vs x i vs.length = ix kk vs (vs.take i) x := cnt_full h

theorem pu_at {kk : Value → Int} {vs ws : List Value} (x : Rs kk vs ws) : ∀ i k y, k < i → vs[k]? = some y → (pu kk vs i)[cnt kk vs y k vs.length]? = ws[cnt kk vs y k vs.length]? := by
  intro i
  induction i with
  | zero => intro k y h; exact absurd h (Nat.not_lt_zero _)
  | succ i ih =>
    intro k y hk hy
    rw [pu]
    cases hv : vs[i]? with
    | none =>
      rcases Nat.lt_or_ge k i with h | h
      · exact ih k y h hy
      · have : k = i := by omega
        rw [this, hv] at hy; cases hy
    | some z =>
      dsimp only
      rw [List.getElem?_set]
      have hz : ws[cnt kk vs z i vs.length]? = some z := by rw [cnt_ix hv]; exact rs_at x _ _ _ (at_split hv)
      split
      · rename_i e
        rw [e] at hz
        rw [hz, if_pos]
        rw [pu_length]
        exact cnt_lt hv
      · rename_i e
        rcases Nat.lt_or_ge k i with h | h
        · exact ih k y h hy
        · have hki : k = i := by omega
          subst hki
          rw [hv] at hy; cases hy
          exact absurd rfl e

theorem placed_is {kk : Value → Int} {vs ws : List Value} (x : Rs kk vs ws) : pu kk vs vs.length = ws := by
  refine List.ext_getElem? fun q => ?_
  rcases Nat.lt_or_ge q ws.length with h | h
  · obtain ⟨pre, v, post, e, hi⟩ := rs_onto x q h
    have hlen : pre.length < vs.length := by rw [e, List.length_append, List.length_cons]; omega
    have hv : vs[pre.length]? = some v := by rw [e, List.getElem?_append_right (Nat.le_refl _), Nat.sub_self]; rfl
    have ht : vs.take pre.length = pre := by rw [e, List.take_left']; rfl
    have := pu_at x vs.length pre.length v hlen hv
    rw [cnt_ix hv, ht, hi] at this
    exact this
  · rw [List.getElem?_eq_none h, List.getElem?_eq_none (by rw [pu_length, ← x.length]; exact h)]

section
variable {prog : Program} {w : World} {A : Around} {s : Shared}

def Els (C : Addr) (Gd : Nat → Obj → Prop) (h : Heap) (ys : List Value) : Prop := ∀ k, k < ys.length → ∃ T o, ys[k]? = some (.ref T) ∧ C < T ∧ h.get? T = some o ∧ Gd k o

theorem Els.keep {C : Addr} {Gd : Nat → Obj → Prop} {h h' : Heap} {ys : List Value} (x : Els C Gd h ys) (k : ∀ b o, C < b → h.get? b = some o → h'.get? b = some o) : Els C Gd h' ys := fun j hj =>
  let ⟨T, o, e1, e2, e3, e4⟩ := x j hj; ⟨T, o, e1, e2, k _ _ e2 e3, e4⟩
theorem Els.snoc {C : Addr} {Gd : Nat → Obj → Prop} {h : Heap} {ys : List Value} {T : Addr} {o : Obj} (x : Els C Gd h ys) (h1 : C < T) (h2 : h.get? T = some o) (h3 : Gd ys.length o) : Els C Gd h (ys ++ [.ref T]) := fun j hj => by
  rcases Nat.lt_or_ge j ys.length with hlt | hge
  · obtain ⟨T', o', e1, r⟩ := x j hlt
    exact ⟨T', o', by rw [List.getElem?_append_left hlt]; exact e1, r⟩
  · have : j = ys.length := by rw [List.length_append, List.length_singleton] at hj; omega
    subst this
    exact ⟨T, o, by rw [List.getElem?_append_right (Nat.le_refl _), Nat.sub_self]; rfl, h1, h2, h3⟩

theorem cards_loop {cenv : Env} {elt iter : Expr} {x : Str} {px pos : Pos} {scope : Scope} {I D : Addr} {n : Nat} {m : Str → Option Value} {R : Result → Shared → Prop} (Gd : Nat → Obj → Prop)
    (hh : A.handled = none) (hx : cenv.kindOf x = some .local) (hp : (cenv.scope.kind == .class || (cenv.scope.kind == .module && cenv.locals != cenv.globals)) = false)
    (hDC : D < cenv.locals) (hIC : I < cenv.locals) (hID : I ≠ D) (hit : IsRangeIter s.heap I 0 n 1) (hacc : s.heap.PlainList D #[]) (hn : s.heap.Ns cenv.locals m) (hsz : n ≤ 1000)
    (helt : ∀ i ti s₂ m₂, i < n → s₂.heap.Ns cenv.locals m₂ → m₂ x = some (.int (i : Nat) ti) → (∀ b o, b ≠ cenv.locals → b ≠ I → b ≠ D → s.heap.get? b = some o → s₂.heap.get? b = some o) →
      wpAny (model prog w) A (eval elt cenv) (fun y s₃ => (∃ T o, y = .ref T ∧ s₂.heap.objs.size ≤ T ∧ s₃.heap.get? T = some o ∧ Gd i o) ∧ Keeps s₂ s₃) (fun _ _ => False) s₂)
    (hR : ∀ h' tk m' ys, h'.Ns cenv.locals m' → h'.PlainList D ys.toArray → ys.length = n → Els cenv.locals Gd h' ys → (∀ b o, b ≠ cenv.locals → b ≠ I → b ≠ D → s.heap.get? b = some o → h'.get? b = some o) →
      R (.ok .next) { s with heap := h', toks := tk }) :
    codeAny (model prog w) A (.compLoop (.ListComp elt [⟨.Name x px, iter, [], 0⟩] scope pos) 0 (.ref I) (.ref D) cenv) R s := by
  refine codeAny_compLoop_tests
    (fun k s' => ∃ h' tk m' ys, s' = { s with heap := h', toks := tk } ∧ IsRangeIter h' I ((ys.length : Nat) : Int) ((n : Int) - (ys.length : Nat)) 1 ∧ h'.PlainList D ys.toArray ∧ h'.Ns cenv.locals m' ∧
      Els cenv.locals Gd h' ys ∧ ys.length ≤ n ∧ k = n + 1 - ys.length ∧ (∀ b o, b ≠ cenv.locals → b ≠ I → b ≠ D → s.heap.get? b = some o → h'.get? b = some o)) ?_ (n + 1)
    ⟨s.heap, s.toks, m, [], rfl, by simpa using hit, hacc, hn, fun _ hj => absurd hj (Nat.not_lt_zero _), Nat.zero_le _, rfl, fun _ _ _ _ _ e => e⟩
  rintro k s' ⟨H, tk, m', ys, rfl, hit', hacc', hn', hE, hi, rfl, hk⟩
  have hCI : cenv.locals ≠ I := Nat.ne_of_gt hIC
  have hCD : cenv.locals ≠ D := Nat.ne_of_gt hDC
  by_cases hlt : ys.length < n
  · refine wpAny_pyNext_range_item hit' (by omega) fun h₁ hit₁ hs₁ => ?_
    refine wpAny_assign_Name (wpAny_storeName_local hx (hn'.sameBut hs₁ hCI) (fun h₂ hn₂ hs₂ => ?_) hp)
    have up₂ : ∀ b o, b ≠ cenv.locals → b ≠ I → H.get? b = some o → h₂.get? b = some o := fun b o hC hI e => hs₂.extBut b o hC (hs₁.extBut b o hI e)
    have hit₂ : IsRangeIter h₂ I (((ys.length : Nat) : Int) + 1) ((n : Int) - (ys.length : Nat) - 1) 1 := (hs₂.2 I (Ne.symm hCI)).trans hit₁
    refine wpAny_tests_nil ?_
    refine ite_pos rfl ?_
    refine wpAny_mono (helt ys.length _ _ _ hlt hn₂ (if_pos rfl) fun b o hC hI hD e => up₂ b o hC hI (hk b o hC hI hD e)) (fun y s₄ h₄ => ?_) fun _ _ e => e.elim
    obtain ⟨⟨T, o, rfl, hT, eT, gT⟩, h₃, tk₃, rfl, hk₃⟩ := h₄
    have hCT : cenv.locals < T := Nat.lt_of_lt_of_le hn₂.lt hT
    obtain ⟨nD, eD⟩ := hacc'
    have eD₃ := hk₃ _ _ (up₂ D _ (Ne.symm hCD) (Ne.symm hID) eD)
    refine wpAny_list_append_plain (hsz := by rw [List.size_toArray]; exact Nat.le_trans (Nat.le_of_lt hlt) (Nat.le_trans hsz (by decide))) ⟨nD, eD₃⟩ fun h₅ hl₅ hs₅ => ?_
    have up₅ : ∀ b o, cenv.locals < b → h₃.get? b = some o → h₅.get? b = some o := fun b o hb e => hs₅.extBut b o (fun q => by rw [q] at hb; exact Nat.lt_asymm hb hDC) e
    have hl₅' : h₅.PlainList D (ys ++ [Value.ref T]).toArray := by rw [← List.push_toArray]; exact hl₅
    have hlen : (ys ++ [Value.ref T]).length = ys.length + 1 := by rw [List.length_append, List.length_singleton]
    refine ⟨n + 1 - (ys.length + 1), by omega, h₅, tk₃, _, ys ++ [.ref T], rfl, ?_, hl₅', (hn₂.keeps hk₃).sameBut hs₅ hCD, ?_, by rw [hlen]; exact hlt, by rw [hlen], ?_⟩
    · rw [hlen]
      have e1 : (((ys.length + 1 : Nat)) : Int) = ((ys.length : Nat) : Int) + 1 := by omega
      have e2 : (n : Int) - ((ys.length + 1 : Nat) : Int) = (n : Int) - (ys.length : Nat) - 1 := by omega
      rw [e2, e1]
      exact (hs₅.2 I hID).trans (hk₃ _ _ hit₂)
    · refine Els.snoc (hE.keep fun b o hb e => ?_) hCT (up₅ _ _ hCT eT) gT
      exact up₅ b o hb (hk₃ _ _ (up₂ b o (Nat.ne_of_gt hb) (fun q => by rw [q] at hb; exact Nat.lt_asymm hb hIC) e))
    · exact fun b o hC hI hD e => hs₅.extBut b o hD (hk₃ _ _ (up₂ b o hC hI (hk b o hC hI hD e)))
  · have hin : ys.length = n := by omega
    refine wpAny_pyNext_range_end hh hit' (by omega) fun h₁ he₁ => ?_
    obtain ⟨nD, eD⟩ := hacc'
    refine hR h₁ tk m' ys (hn'.extBut he₁ hCI) ⟨nD, he₁ _ _ (Ne.symm hID) eD⟩ hin (hE.keep fun b o hb e => he₁ b o (fun q => by rw [q] at hb; exact Nat.lt_asymm hb hIC) e) fun b o hC hI hD e => he₁ b o hI (hk b o hC hI hD e)

theorem assign_cards {env : Env} {elt iter : Expr} {x y : Str} {px py pos spos : Pos} {scope : Scope} {cl : List (Str × Addr)} {n : Nat} {Q : Flow → Shared → Prop} (Gd : Nat → Obj → Prop)
    (hsw : swapsWith (.ListComp elt [⟨.Name x px, iter, [], 0⟩] scope pos) (some (.Name y py)) spos.line env = pure true)
    (hclos : closureFor scope env = pure cl) (hcell : ∀ z ∈ scope.names, z.2 ≠ .cell) (hkind : scope.kind = .function)
    (hnames : ∀ z ∈ scope.names, z.2 = .local → scope.names.lookup z.1 = some .local) (hx : scope.names.lookup x = some .local)
    (hy : env.kindOf y = some .local) (hp : (env.scope.kind == .class || (env.scope.kind == .module && env.locals != env.globals)) = false) (hh : A.handled = none) (hn : n ≤ 1000)
    (h : wpAny (model prog w) A (eval iter env) (fun xv s₁ => ∃ r t u v m, xv = .ref r ∧ IsRange s₁.heap r 0 n 1 t u v ∧ s₁.heap.Ns env.locals m ∧
      (∀ C i ti s₂ m₂, i < n → s₂.heap.Ns C m₂ → m₂ x = some (.int (i : Nat) ti) → (∀ b o, s₁.heap.get? b = some o → s₂.heap.get? b = some o) →
        wpAny (model prog w) A (eval elt (compEnvC scope cl C env)) (fun y s₃ => (∃ T o, y = .ref T ∧ s₂.heap.objs.size ≤ T ∧ s₃.heap.get? T = some o ∧ Gd i o) ∧ Keeps s₂ s₃) (fun _ _ => False) s₂) ∧
      (∀ D C h' tk ys, s₁.heap.objs.size ≤ D → s₁.heap.objs.size ≤ C → h'.PlainList D ys.toArray → ys.length = n → Els C Gd h' ys → h'.Ns env.locals (fun z => if z = y then some (.ref D) else m z) →
        (∀ b o, b ≠ env.locals → s₁.heap.get? b = some o → h'.get? b = some o) → Q .next { s₁ with heap := h', toks := tk })) (fun _ _ => False) s)
    (hs : ∀ x, foldedSetIterable iter env x = pure x := by intro _; rfl) :
    wpAny (model prog w) A (exec (.Assign [.Name y py] (.ListComp elt [⟨.Name x px, iter, [], 0⟩] scope pos) spos) env) Q (fun _ _ => False) s := by
  rw [exec_Assign_Name_used _ _ _ _ hsw]
  refine wpAny_bind (wpAny_standAt (wpAny_bind ?_))
  show wpAny _ A (do let _ ← comprehension (.ListComp elt [⟨.Name x px, iter, [], 0⟩] scope pos) scope env _ (newList []) false (eval iter env) (some (assign (.Name y py) env))) _ _ s
  refine wpAny_bind (wpAny_mono (wpAny_comprehension_free (use := some (assign (.Name y py) env)) (Q := fun _ s' => Q .next s') rfl hs hclos hkind hnames (wpAny_mono h (fun xv s₁ h₁ => ?_) fun _ _ e => e)) (fun _ s' hq => wpAny_pure (wpAny_pure hq)) fun _ _ e => e)
  obtain ⟨r, t, u, v, m, rfl, hr, hns, helt, hQ⟩ := h₁
  refine wpAny_pyIter_range hr (small_one (by decide) (by decide) (by omega) (by omega)) ?_
  have hrs : Builtin.Range.rangeSize 0 n 1 = (n : Int) := by rw [rangeSize_one]; split <;> omega
  rw [hrs]
  refine wpAny_newObj_type (wpAny_newFunctionEnv hcell (by intro y hy; simp at hy) (fun h₁ hns₁ hsb₁ => ?_) hkind)
  dsimp only at hns₁ hsb₁ ⊢
  have eI := Heap.get?_push_size s₁.heap (o := { cls := .type "range_iterator", data := .fields #[rawInt 0, rawInt (n : Int), rawInt 1] }) rfl
  generalize hH1 : s₁.heap.push { cls := .type "range_iterator", data := .fields #[rawInt 0, rawInt (n : Int), rawInt 1] } = H1 at *
  have k1 : ∀ b o, s₁.heap.get? b = some o → H1.get? b = some o := fun b o e => hH1 ▸ Heap.get?_push_of_some _ e
  have eD := Heap.get?_push_size H1 (o := { cls := .type "list", dict := none, data := .seq ([] : List Value).toArray }) rfl
  generalize hH2 : H1.push { cls := .type "list", dict := none, data := .seq ([] : List Value).toArray } = H2 at *
  have k2 : ∀ b o, H1.get? b = some o → H2.get? b = some o := fun b o e => hH2 ▸ Heap.get?_push_of_some _ e
  have k3 : ∀ b o, H2.get? b = some o → h₁.get? b = some o := fun b o e => hsb₁.extBut b o (Nat.ne_of_lt (Heap.lt_size e)) (Heap.get?_push_of_some _ e)
  have lI : s₁.heap.objs.size < H1.objs.size := Heap.lt_size eI
  have lD : H1.objs.size < H2.objs.size := Heap.lt_size eD
  have hCs : s₁.heap.objs.size ≤ H2.objs.size := Nat.le_of_lt (Nat.lt_trans lI lD)
  have loop : ∀ s₃ : Shared, s₃.heap = h₁ → s₃.gens = s₁.gens → s₃.drawn = s₁.drawn → s₃.os = s₁.os →
      codeAny (model prog w) A (.compLoop (.ListComp elt [⟨.Name x px, iter, [], 0⟩] scope pos) 0 (.ref s₁.heap.objs.size) (.ref H1.objs.size) (compEnvC scope cl H2.objs.size env))
        (compPost (model prog w) A (fun _ _ => False) (some (assign (.Name y py) env)) (fun _ s' => Q .next s') (.ref H1.objs.size) H2.objs.size) s₃ := by
    intro s₃ e1 e2 e3 e4
    refine cards_loop (n := n) (cenv := compEnvC scope cl H2.objs.size env) Gd hh (lookup_relabel_local hx) (by simp [compEnvC, relabel, hkind]) lD (Nat.lt_trans lI lD) (Nat.ne_of_lt lI) (e1 ▸ k3 _ _ (k2 _ _ eI)) ⟨_, e1 ▸ k3 _ _ eD⟩ (e1 ▸ hns₁) hn ?_ ?_
    · intro i ti s₂ m₂ hi hm₂ hxm hk
      refine helt _ i ti s₂ m₂ hi hm₂ hxm fun b o e => hk b o ?_ ?_ ?_ (by rw [e1]; exact k3 _ _ (k2 _ _ (k1 _ _ e)))
      · exact Nat.ne_of_lt (Nat.lt_of_lt_of_le (Heap.lt_size e) hCs)
      · exact Nat.ne_of_lt (Heap.lt_size e)
      · exact Nat.ne_of_lt (Nat.lt_trans (Heap.lt_size e) lI)
    · intro h' tk m' ys hnC hpl hlen hE hk
      have old : ∀ b o, s₁.heap.get? b = some o → h'.get? b = some o := fun b o e => hk b o (Nat.ne_of_lt (Nat.lt_of_lt_of_le (Heap.lt_size e) hCs)) (Nat.ne_of_lt (Heap.lt_size e)) (Nat.ne_of_lt (Nat.lt_trans (Heap.lt_size e) lI)) (by rw [e1]; exact k3 _ _ (k2 _ _ (k1 _ _ e)))
      have lL : env.locals < s₁.heap.objs.size := hns.lt
      show wpAny _ A (assign (.Name y py) env (.ref H1.objs.size)) _ _ _
      refine wpAny_assign_Name (wpAny_storeName_local hy (hns.keeps old) (fun h₂ hn₂ hs₂ => ?_) hp)
      refine ⟨m', hnC.sameBut hs₂ (Nat.ne_of_gt (Nat.lt_of_lt_of_le lL hCs)), fun h₃ hs₃ => ?_⟩
      obtain ⟨nD, eDl⟩ := hpl
      have st : ({ s₃ with heap := h₃, toks := tk + 1 } : Shared) = { s₁ with heap := h₃, toks := tk + 1 } := by
        cases s₃; cases s₁; simp only at e2 e3 e4; subst e2 e3 e4; rfl
      have fin := hQ H1.objs.size H2.objs.size h₃ (tk + 1) ys (Nat.le_of_lt lI) hCs
        ⟨nD, hs₃.extBut _ _ (Nat.ne_of_lt lD) (hs₂.extBut _ _ (Nat.ne_of_gt (Nat.lt_trans lL lI)) eDl)⟩ hlen
        (hE.keep fun b o hb e => hs₃.extBut b o (Nat.ne_of_gt hb) (hs₂.extBut b o (Nat.ne_of_gt (Nat.lt_of_lt_of_le lL (Nat.le_trans hCs (Nat.le_of_lt hb)))) e))
        (hn₂.sameBut hs₃ (Nat.ne_of_lt (Nat.lt_of_lt_of_le lL hCs)))
        (fun b o hbL e => hs₃.extBut b o (Nat.ne_of_lt (Nat.lt_of_lt_of_le (Heap.lt_size e) hCs)) (hs₂.extBut b o hbL (old b o e)))
      rw [← st] at fin
      exact fin
  refine codeAny_compStart_list (loop _ rfl rfl rfl rfl) ?_
  exact wpAny_pyIter_rangeiter (k3 _ _ (k2 _ _ eI)) (loop _ rfl rfl rfl rfl)
end

def iv : Value → Int
  | .int i _ => i
  | _ => 0
def IsInt (v : Value) : Prop := ∃ t, v = .int (iv v) t
theorem ints_of {vs : List Value} {ns : List Int} (h : IntsAre vs ns) : ∀ v ∈ vs, IsInt v := by
  induction h with
  | nil => intro v hv; exact nomatch hv
  | cons n t _ ih =>
    intro v hv
    rcases List.mem_cons.mp hv with rfl | hv
    · exact ⟨t, rfl⟩
    · exact ih v hv
theorem ints_reads {h : Heap} : ∀ {vs : List Value}, (∀ v ∈ vs, IsInt v) → ReadsAll h vs ((vs.map iv).map PyData.int) []
  | [], _ => .nil
  | v :: r, k => by
    obtain ⟨t, e⟩ := k v (.head _)
    refine .cons (as := []) (bs := []) ?_ (ints_reads fun u hu => k u (.tail _ hu))
    rw [e]; exact .int _ _
abbrev pairD (a b : List Value) : PyData := .tuple [.list ((a.map iv).map PyData.int), .list ((b.map iv).map PyData.int)]
theorem pairD_canLay (a b : List Value) : (pairD a b).canLay0 = true := by
  simp only [PyData.canLay0, PyData.canLayAll0, ke_canLayAll0, Bool.and_self]
theorem pairD_shaped (a b : List Value) : SeqAt.shaped (pairD a b) = true := by
  have h3 : PyData.depth (pairD a b) ≤ 64 := by simp only [PyData.depth, PyData.depthAll, ke_depthAll]; decide
  have h1 := pairD_canLay a b
  simp only [SeqAt.shaped, h1, Bool.true_and]
  exact decide_eq_true h3

section
variable {prog : Program} {w : World} {A : Around} {s : Shared} {E : Value → Shared → Prop}
theorem pair_reads {h : Heap} {t y z : Addr} {a b : List Value} (ha : ∀ v ∈ a, IsInt v) (hb : ∀ v ∈ b, IsInt v) (T : h.IsTuple t #[.ref y, .ref z]) (Y : h.IsList y a.toArray) (Z : h.IsList z b.toArray) : ∃ as, Reads h (.ref t) (pairD a b) as := by
  obtain ⟨o, ho, hc, n, hd⟩ := T
  exact ⟨_, .tuple ho hc hd (.cons (list_reads Y (ints_reads ha)) (.cons (list_reads Z (ints_reads hb)) .nil))⟩
theorem cmp_pair {t1 y1 z1 t2 y2 z2 : Addr} {a b : List Value} {Q : Bool → Shared → Prop} (ha : ∀ v ∈ a, IsInt v) (hb : ∀ v ∈ b, IsInt v)
    (T1 : s.heap.IsTuple t1 #[.ref y1, .ref z1]) (Y1 : s.heap.IsList y1 a.toArray) (Z1 : s.heap.IsList z1 b.toArray) (T2 : s.heap.IsTuple t2 #[.ref y2, .ref z2]) (Y2 : s.heap.IsList y2 a.toArray) (Z2 : s.heap.IsList z2 b.toArray)
    (hu : A.units + 64 < cLine) (h : Q false s) : wpAny (model prog w) A (compareOp .NotEq (.ref t1) (.ref t2)) (fun c s₃ => wpAny (model prog w) A (truthy c) Q E s₃) E s := by
  obtain ⟨as, r1⟩ := pair_reads ha hb T1 Y1 Z1
  obtain ⟨bs, r2⟩ := pair_reads ha hb T2 Y2 Z2
  refine ne_dataH r1 r2 (pairD_shaped a b) (pairD_shaped a b) hu (wpAny_truthy_bool ?_)
  rw [SeqAt.eqv_refl _ (pairD_canLay a b)]
  exact h
end

section
variable {G h₀ h h' : Heap} {L : Addr} {m m' : Str → Option Value} {own : List (Addr × Obj)}
theorem Fm.store' (F : Fm G h₀ L m own h) (hn : h'.Ns L m') (k : ∀ b o, b ≠ L → h.get? b = some o → h'.get? b = some o) : Fm G h₀ L m' own h' := by
  obtain ⟨oL, es, ep, hL, hd, _⟩ := id F.ns
  exact { ns := hn
          keep := fun b o n e => k b o (Nat.ne_of_lt (Nat.lt_of_lt_of_le (Heap.lt_size e) F.above)) (F.keep b o n e)
          above := F.above
          base := F.base
          big := F.big
          wd := F.wd.but k hL (fun vs q t e => by rw [hd] at e; cases e) F.base (notTb F.big) (Nat.le_of_lt (Nat.lt_of_le_of_lt F.base hn.lt))
          nw := fun p hp => ⟨k _ _ (Nat.ne_of_gt (F.nw p hp).2) (F.nw p hp).1, (F.nw p hp).2⟩ }
/-- a list that stands aside -/
def Lst (L : Addr) (h : Heap) (a : Addr) (vs : List Value) : Prop := ¬ IsTb a ∧ a ≠ L ∧ h.IsList a vs.toArray
theorem Lst.ext {a : Addr} {vs : List Value} (x : Lst L h a vs) (k : Ext h h') : Lst L h' a vs := let ⟨n, e, o, ho, r⟩ := x; ⟨n, e, o, k _ _ n ho, r⟩
theorem Lst.but {a : Addr} {vs : List Value} (x : Lst L h a vs) (k : ∀ b o, b ≠ L → h.get? b = some o → h'.get? b = some o) : Lst L h' a vs := let ⟨n, e, o, ho, r⟩ := x; ⟨n, e, o, k _ _ e ho, r⟩
/-- a new place is none of the tables, nor the frame's -/
theorem Fm.fresh {a : Addr} (F : Fm G h₀ L m own h) (e : h.get? a = none) : ¬ IsTb a ∧ a ≠ L := by
  refine ⟨fun hT => ?_, fun q => ?_⟩
  · have : ∃ q, (a, q) ∈ tq := by
      rcases hT with rfl | rfl | rfl
      · exact ⟨_, .head _⟩
      · exact ⟨_, .tail _ (.head _)⟩
      · exact ⟨_, .tail _ (.tail _ (.head _))⟩
    obtain ⟨q, hq⟩ := this
    obtain ⟨ps, e2, _⟩ := F.wd.tb _ hq
    have e3 : h.get? a = some (tabObj ps) := e2
    rw [e] at e3; cases e3
  · obtain ⟨o, _, _, e2, _⟩ := F.ns
    rw [q, e2] at e; cases e
end

theorem paired_eq : ∀ {a b : List Value}, Paired (fun v y => y = v) a b → b = a
  | _, _, .nil => rfl
  | _, _, .cons h t => by rw [h, paired_eq t]

def pLow (v : Value) : Bool := decide ((iv v).fdiv 256 < 1)
def pHigh (v : Value) : Bool := decide (0 < (iv v).fdiv 256)
theorem low_T (vs : List Value) : (vs.filter fun v => decide (iv v < 256)) = vs.filter pLow := List.filter_congr fun v _ => by
  unfold pLow
  rw [Int.fdiv_eq_ediv_of_nonneg _ (by decide)]
  exact decide_eq_decide.mpr (by omega)
theorem high_T (vs : List Value) : (vs.filter fun v => !decide (iv v < 256)) = vs.filter pHigh := List.filter_congr fun v _ => by
  unfold pHigh
  rw [Int.fdiv_eq_ediv_of_nonneg _ (by decide), Bool.eq_iff_iff]
  simp only [Bool.not_eq_true', decide_eq_false_iff_not, decide_eq_true_eq]
  omega
theorem high_N (vs : List Value) : (vs.filter fun v => decide (256 ≤ iv v)) = vs.filter pHigh := List.filter_congr fun v _ => by
  unfold pHigh
  rw [Int.fdiv_eq_ediv_of_nonneg _ (by decide)]
  exact decide_eq_decide.mpr (by omega)
theorem low_N (vs : List Value) : (vs.filter fun v => !decide (256 ≤ iv v)) = vs.filter pLow := List.filter_congr fun v _ => by
  unfold pLow
  rw [Int.fdiv_eq_ediv_of_nonneg _ (by decide), Bool.eq_iff_iff]
  simp only [Bool.not_eq_true', decide_eq_false_iff_not, decide_eq_true_eq]
  omega
theorem filter_ints {p : Value → Bool} {vs : List Value} (h : ∀ v ∈ vs, IsInt v) : ∀ v ∈ vs.filter p, IsInt v := fun v hv => h v (List.mem_filter.mp hv).1

section
variable {prog : Program} {w : World} {A : Around} {s : Shared} {G : Heap} {L f : Addr} {m mg mb : Str → Option Value} {oc : Obj} {l : Addr} {vs : List Value} {ns : List Int} {Q : Flow → Shared → Prop}

abbrev lenv (L f : Addr) : Env := envX (Str.ofString "law") (fnScope 12) L f (.ref 67) [(Str.ofString "numbers", L + 1)]

/-- how the frame of the law stands behind its first row -/
structure Nm (G : Heap) (L : Addr) (m : Str → Option Value) (oc : Obj) (D : Addr) (NV : List Value) (h : Heap) : Prop where
  F : Fm G G L m [(L + 1, oc), (D, lst NV.toArray 0)] h
  hoc : oc.data = .cell (some (.ref D))
theorem Nm.cell {G : Heap} {L : Addr} {m : Str → Option Value} {oc : Obj} {D : Addr} {NV : List Value} {h : Heap} (N : Nm G L m oc D NV h) : h.IsCell (L + 1) (some (.ref D)) := ⟨oc, N.F.get (.head _), N.hoc⟩
theorem Nm.list {G : Heap} {L : Addr} {m : Str → Option Value} {oc : Obj} {D : Addr} {NV : List Value} {h : Heap} (N : Nm G L m oc D NV h) : h.IsList D NV.toArray := PlainList.isList ⟨0, N.F.get (.tail _ (.head _))⟩
theorem Nm.call {G : Heap} {L : Addr} {m : Str → Option Value} {oc : Obj} {D : Addr} {NV : List Value} {h h' : Heap} (N : Nm G L m oc D NV h) (x : Ext h h') (W : Wd G h') : Nm G L m oc D NV h' := ⟨N.F.call x W, N.hoc⟩
theorem Nm.ext {G : Heap} {L : Addr} {m : Str → Option Value} {oc : Obj} {D : Addr} {NV : List Value} {h h' : Heap} (N : Nm G L m oc D NV h) (k : ∀ b o, h.get? b = some o → h'.get? b = some o) : Nm G L m oc D NV h' := ⟨N.F.ext k, N.hoc⟩
theorem Nm.notTb {G : Heap} {L : Addr} {m : Str → Option Value} {oc : Obj} {D : Addr} {NV : List Value} {h : Heap} (N : Nm G L m oc D NV h) : ¬ IsTb D := Mine.notTb (Nat.lt_trans N.F.big (N.F.nw _ (.tail _ (.head _))).2)

set_option maxHeartbeats 4000000 in
theorem law_A (B : Bs G mg mb) (F0 : Fm G G L m [(L + 1, oc)] s.heap) (hoc : oc.data = .cell none) (hm : m (Str.ofString "script") = some (.ref l)) (hl : G.IsList l vs.toArray) (hi : IntsAre vs ns) (hsz : vs.length ≤ 63)
    (h : ∀ oc' D NV h' tk', (∀ v ∈ NV, IsInt v) → NV.length ≤ 13 → Nm G L m oc' D NV h' → wpAny (model prog w) A (execs ((fnBody 12).drop 1) (lenv L f)) Q (fun _ _ => False) { s with heap := h', toks := tk' }) :
    wpAny (model prog w) A (execs (fnBody 12) (lenv L f)) Q (fun _ _ => False) s := by
  have hl0 : s.heap.IsList l vs.toArray := let ⟨o, ho, r⟩ := hl; ⟨o, F0.top ho, r⟩
  refine wpAny_execs_cons (wpAny_Assign_Name (wpAny_BinOp (wpAny_Subscript_list_slice (nm_l F0 hm (wpAny_evalPart_none (wpAny_evalPart_some (wpAny_Constant_int ⟨l, vs.toArray, none, some 8, rfl, hl0, by rw [List.size_toArray]; exact Nat.le_trans hsz (by decide), .none, .int _ _, ?_⟩)))))))
  have hsl := slice_ints_uptoW hi (y := 8) (by decide)
  generalize hv0 : (slicePick vs.toArray none (some 8) none).toList = vs0 at hsl
  have hv0' : slicePick vs.toArray none (some 8) none = vs0.toArray := by rw [← hv0]
  rw [hv0']
  have F1 := ((F0.push { cls := .type "slice", data := .fields #[.none, .int 8 s.toks, .none] }).push (lst vs0.toArray 0)).sub (own' := [(_, lst vs0.toArray 0), (L + 1, oc)]) (fun p hp => by
    rcases List.mem_cons.mp hp with rfl | hp
    · exact .head _
    · exact .tail _ (.tail _ hp))
  rw [Heap.size_push] at F1
  have hlen0 : vs0.length ≤ 8 := by rw [hsl.length, List.length_take]; exact Nat.min_le_left _ _
  refine wpAny_List (spliced_more (wpAny_Constant_int (spliced_more (wpAny_Constant_int (spliced_more (wpAny_UnaryOp (wpAny_Constant_int (neg_int (spliced_more (wpAny_Constant_int (spliced_more (wpAny_Constant_int (spliced_none ⟨by size_fits, ?_⟩)))))))))))))
  have F2 := F1.push (lst #[.int 256 (s.toks + 1), .int 256 (s.toks + 1 + 1), .int (-7) (s.toks + 1 + 1 + 1 + 1), .int 255 (s.toks + 1 + 1 + 1 + 1 + 1), .int 0 (s.toks + 1 + 1 + 1 + 1 + 1 + 1)] 0)
  refine add_ls (ws := [.int 256 (s.toks + 1), .int 256 (s.toks + 1 + 1), .int (-7) (s.toks + 1 + 1 + 1 + 1), .int 255 (s.toks + 1 + 1 + 1 + 1 + 1), .int 0 (s.toks + 1 + 1 + 1 + 1 + 1 + 1)]) (⟨0, F2.get (.tail _ (.head _))⟩) (⟨0, F2.get (.head _)⟩) ?_ (Nat.le_trans (Nat.add_le_add hlen0 (Nat.le_refl 5)) (by decide))
  have hI5 : ∀ v ∈ vs0 ++ [Value.int 256 (s.toks + 1), .int 256 (s.toks + 1 + 1), .int (-7) (s.toks + 1 + 1 + 1 + 1), .int 255 (s.toks + 1 + 1 + 1 + 1 + 1), .int 0 (s.toks + 1 + 1 + 1 + 1 + 1 + 1)], IsInt v :=
    ints_of (hsl.append (.cons _ _ (.cons _ _ (.cons _ _ (.cons _ _ (.cons _ _ .nil))))))
  have hlen5 : (vs0 ++ [Value.int 256 (s.toks + 1), .int 256 (s.toks + 1 + 1), .int (-7) (s.toks + 1 + 1 + 1 + 1), .int 255 (s.toks + 1 + 1 + 1 + 1 + 1), .int 0 (s.toks + 1 + 1 + 1 + 1 + 1 + 1)]).length ≤ 13 := by
    rw [List.length_append]; exact Nat.add_le_add hlen0 (Nat.le_refl _)
  have F3 := (F2.push (lst (vs0 ++ [Value.int 256 (s.toks + 1), .int 256 (s.toks + 1 + 1), .int (-7) (s.toks + 1 + 1 + 1 + 1), .int 255 (s.toks + 1 + 1 + 1 + 1 + 1), .int 0 (s.toks + 1 + 1 + 1 + 1 + 1 + 1)]).toArray 0)).sub
    (own' := [(L + 1, oc), (_, lst (vs0 ++ [Value.int 256 (s.toks + 1), .int 256 (s.toks + 1 + 1), .int (-7) (s.toks + 1 + 1 + 1 + 1), .int 255 (s.toks + 1 + 1 + 1 + 1 + 1), .int 0 (s.toks + 1 + 1 + 1 + 1 + 1 + 1)]).toArray 0)]) (fun p hp => by
    rcases List.mem_cons.mp hp with rfl | hp
    · exact .tail _ (.tail _ (.tail _ (.head _)))
    · rw [List.mem_singleton.mp hp]; exact .head _)
  have hDne := Nat.ne_of_gt (Heap.lt_size (F2.get (.tail _ (.tail _ (.head _)))))
  generalize (vs0 ++ [Value.int 256 (s.toks + 1), .int 256 (s.toks + 1 + 1), .int (-7) (s.toks + 1 + 1 + 1 + 1), .int 255 (s.toks + 1 + 1 + 1 + 1 + 1), .int 0 (s.toks + 1 + 1 + 1 + 1 + 1 + 1)]) = NV at *
  refine wpAny_storeName_cell rfl rfl rfl ⟨oc, F3.get (.head _), hoc⟩ fun h4 hcell hs4 => ?_
  obtain ⟨oc4, hoc4, hd4⟩ := hcell
  have F4 := F3.upd hs4.extBut (fun p hp => by rw [List.mem_singleton.mp hp]; exact hDne) (cell_noCode hoc) hoc4
  exact h _ _ _ _ _ hI5 hlen5 ⟨F4, hd4⟩
end

section
variable {prog : Program} {w : World} {A : Around} {s : Shared} {G : Heap} {L f : Addr} {m mg mb : Str → Option Value} {oc : Obj} {D : Addr} {NV : List Value} {Q : Flow → Shared → Prop}

theorem Nm.store' {h h' : Heap} {m' : Str → Option Value} (N : Nm G L m oc D NV h) (hn : h'.Ns L m') (k : ∀ b o, b ≠ L → h.get? b = some o → h'.get? b = some o) : Nm G L m' oc D NV h' := ⟨N.F.store' hn k, N.hoc⟩

set_option maxHeartbeats 4000000 in
theorem law_low (hI : ∀ v ∈ NV, IsInt v) (hlen : NV.length ≤ 13) (N : Nm G L m oc D NV s.heap) (R : Room A 20)
    (h : ∀ lo h' tk', Lst L h' lo (NV.filter pLow) → Nm G L (fun z => if z = Str.ofString "low" then some (.ref lo) else m z) oc D NV h' → (∀ b o, b ≠ L → s.heap.get? b = some o → h'.get? b = some o) →
      wpAny (model prog w) A (execs ((fnBody 12).drop 2) (lenv L f)) Q (fun _ _ => False) { s with heap := h', toks := tk' }) :
    wpAny (model prog w) A (execs ((fnBody 12).drop 1) (lenv L f)) Q (fun _ _ => False) s := by
  refine wpAny_execs_cons (wpAny_Assign_ListComp_map pLow (fun v y => y = v) rfl R.hd (by decide) (by decide) rfl (by decide) rfl rfl rfl ?_)
  refine nm_c rfl N.cell ⟨D, NV.toArray, m, rfl, N.list, by rw [List.size_toArray]; exact Nat.le_trans hlen (by decide), N.F.ns, ?_, ?_, ?_⟩
  · intro C v s₂ m₂ E' hv hns hmx _
    obtain ⟨t, e⟩ := hI v (by simpa using hv)
    refine wpAny_tests_one (wpAny_isTrue_Compare1 (wpAny_BinOp (wpAny_Name (wpAny_loadName_local rfl rfl hns hmx ?_))))
    rw [e]
    refine wpAny_Constant_int (floordiv_int (by decide) (wpAny_Constant_int (lt_int (wpAny_truthy_bool ⟨?_, _, _, rfl, fun _ _ e => e⟩))))
    rw [← e]; rfl
  · intro C v s₂ m₂ E' hv hp hns hmx _
    exact wpAny_Name (wpAny_loadName_local rfl rfl hns hmx ⟨rfl, _, _, rfl, fun _ _ e => e⟩)
  · intro lo h' tk ys hnew hl hpair hns hk
    have e := paired_eq hpair
    have hf := N.F.fresh hnew
    refine h lo h' tk ⟨hf.1, hf.2, ?_⟩ (N.store' hns hk) hk
    have e2 : ys = (NV.filter pLow).toArray := by rw [← e]
    rw [← e2]; exact hl
set_option maxHeartbeats 4000000 in
theorem law_high (hI : ∀ v ∈ NV, IsInt v) (hlen : NV.length ≤ 13) (N : Nm G L m oc D NV s.heap) (R : Room A 20)
    (h : ∀ lo h' tk', Lst L h' lo (NV.filter pHigh) → Nm G L (fun z => if z = Str.ofString "high" then some (.ref lo) else m z) oc D NV h' → (∀ b o, b ≠ L → s.heap.get? b = some o → h'.get? b = some o) →
      wpAny (model prog w) A (execs ((fnBody 12).drop 3) (lenv L f)) Q (fun _ _ => False) { s with heap := h', toks := tk' }) :
    wpAny (model prog w) A (execs ((fnBody 12).drop 2) (lenv L f)) Q (fun _ _ => False) s := by
  refine wpAny_execs_cons (wpAny_Assign_ListComp_map pHigh (fun v y => y = v) rfl R.hd (by decide) (by decide) rfl (by decide) rfl rfl rfl ?_)
  refine nm_c rfl N.cell ⟨D, NV.toArray, m, rfl, N.list, by rw [List.size_toArray]; exact Nat.le_trans hlen (by decide), N.F.ns, ?_, ?_, ?_⟩
  · intro C v s₂ m₂ E' hv hns hmx _
    obtain ⟨t, e⟩ := hI v (by simpa using hv)
    refine wpAny_tests_one (wpAny_isTrue_Compare1 (wpAny_BinOp (wpAny_Name (wpAny_loadName_local rfl rfl hns hmx ?_))))
    rw [e]
    refine wpAny_Constant_int (floordiv_int (by decide) (wpAny_Constant_int (gt_int (wpAny_truthy_bool ⟨?_, _, _, rfl, fun _ _ e => e⟩))))
    rw [← e]; rfl
  · intro C v s₂ m₂ E' hv hp hns hmx _
    exact wpAny_Name (wpAny_loadName_local rfl rfl hns hmx ⟨rfl, _, _, rfl, fun _ _ e => e⟩)
  · intro lo h' tk ys hnew hl hpair hns hk
    have e := paired_eq hpair
    have hf := N.F.fresh hnew
    refine h lo h' tk ⟨hf.1, hf.2, ?_⟩ (N.store' hns hk) hk
    have e2 : ys = (NV.filter pHigh).toArray := by rw [← e]
    rw [← e2]; exact hl
end

section
variable {prog : Program} {w : World} {A : Around} {s : Shared} {G : Heap} {L f : Addr} {m mg mb : Str → Option Value} {oc : Obj} {D : Addr} {NV : List Value} {Q : Flow → Shared → Prop} {lo hi : Addr}

theorem push_keep {h : Heap} {o : Obj} : ∀ b o', h.get? b = some o' → (h.push o).get? b = some o' := fun _ _ e => Heap.get?_push_of_some _ e
theorem nt28 : ¬ IsTb 28 := by unfold IsTb; decide
theorem nt35 : ¬ IsTb 35 := by unfold IsTb; decide
theorem nt42 : ¬ IsTb 42 := by unfold IsTb; decide

set_option maxHeartbeats 4000000 in
theorem law_T (B : Bs G mg mb) (hI : ∀ v ∈ NV, IsInt v) (hlen : NV.length ≤ 13) (N : Nm G L m oc D NV s.heap) (R : Room A 20) (hlo : Lst L s.heap lo (NV.filter pLow)) (hhi : Lst L s.heap hi (NV.filter pHigh))
    (mlo : m (Str.ofString "low") = some (.ref lo)) (mhi : m (Str.ofString "high") = some (.ref hi))
    (h : ∀ h' tk', Ext s.heap h' → Nm G L m oc D NV h' → wpAny (model prog w) A (execs ((fnBody 12).drop 4) (lenv L f)) Q (fun _ _ => False) { s with heap := h', toks := tk' }) :
    wpAny (model prog w) A (execs ((fnBody 12).drop 3) (lenv L f)) Q (fun _ _ => False) s := by
  have hun : A.units + 64 < cLine := by have := R.un; omega
  refine wpAny_execs_cons (wpAny_If (wpAny_isTrue_Compare1 (callF (nm_g B N.F B.nS ⟨21, rfl, spliced_more (nm_c rfl N.cell (spliced_more (nm_g B N.F B.nT (spliced_none ⟨(IsFn.of B.fS).keeps N.F.wd.st, ?_⟩))))⟩))))
  refine does_S B (h₁ := s.heap) (n := 1) (pd := fun v => decide (iv v < 256)) N.list N.notTb (Nat.le_trans hlen (by decide)) ((IsFn.of B.fT).keeps N.F.wd.st) nt28
    (fun v hv => by obtain ⟨t, e⟩ := hI v hv; have := does_T (prog := prog) (w := w) (h₁ := s.heap) B (iv v) t; rw [← e] at this; exact this) _ _ _ _ (Ext.refl _) N.F.wd (R.le (by decide)) fun r h4 tk4 X4 W4 hr => ?_
  obtain ⟨t4, y, z, rfl, ft, fy, fz, htup, hy, hz⟩ := hr
  rw [low_T] at hy
  rw [high_T] at hz
  have N4 := N.call X4 W4
  refine wpAny_Tuple (spliced_more (nm_l N4.F mlo (spliced_more (nm_l N4.F mhi (spliced_none ⟨by size_fits, ?_⟩)))))
  have N5 := N4.ext (h' := h4.push { cls := .type "tuple", data := .seq #[.ref lo, .ref hi] }) push_keep
  refine cmp_pair (filter_ints hI) (filter_ints hI) (htup.push _) ((PlainList.isList hy).push _) ((PlainList.isList hz).push _) ⟨_, Heap.get?_push_size _ rfl, rfl, _, rfl⟩ ((hlo.ext X4).2.2.push _) ((hhi.ext X4).2.2.push _) hun ?_
  exact ite_neg Bool.false_ne_true (wpAny_execs_nil (h _ _ (X4.trans (Ext.of push_keep)) N5))

set_option maxHeartbeats 4000000 in
theorem law_N (B : Bs G mg mb) (hI : ∀ v ∈ NV, IsInt v) (hlen : NV.length ≤ 13) (N : Nm G L m oc D NV s.heap) (R : Room A 20) (hlo : Lst L s.heap lo (NV.filter pLow)) (hhi : Lst L s.heap hi (NV.filter pHigh))
    (mlo : m (Str.ofString "low") = some (.ref lo)) (mhi : m (Str.ofString "high") = some (.ref hi))
    (h : ∀ h' tk', Ext s.heap h' → Nm G L m oc D NV h' → wpAny (model prog w) A (execs ((fnBody 12).drop 5) (lenv L f)) Q (fun _ _ => False) { s with heap := h', toks := tk' }) :
    wpAny (model prog w) A (execs ((fnBody 12).drop 4) (lenv L f)) Q (fun _ _ => False) s := by
  have hun : A.units + 64 < cLine := by have := R.un; omega
  refine wpAny_execs_cons (wpAny_If (wpAny_isTrue_Compare1 (callF (nm_g B N.F B.nS ⟨21, rfl, spliced_more (nm_c rfl N.cell (spliced_more (nm_g B N.F B.nN (spliced_none ⟨(IsFn.of B.fS).keeps N.F.wd.st, ?_⟩))))⟩))))
  refine does_S B (h₁ := s.heap) (n := 1) (pd := fun v => decide (256 ≤ iv v)) N.list N.notTb (Nat.le_trans hlen (by decide)) ((IsFn.of B.fN).keeps N.F.wd.st) nt35
    (fun v hv => by obtain ⟨t, e⟩ := hI v hv; have := does_N (prog := prog) (w := w) (h₁ := s.heap) B (iv v) t; rw [← e] at this; exact this) _ _ _ _ (Ext.refl _) N.F.wd (R.le (by decide)) fun r h4 tk4 X4 W4 hr => ?_
  obtain ⟨t4, y, z, rfl, ft, fy, fz, htup, hy, hz⟩ := hr
  rw [high_N] at hy
  rw [low_N] at hz
  have N4 := N.call X4 W4
  refine wpAny_Tuple (spliced_more (nm_l N4.F mhi (spliced_more (nm_l N4.F mlo (spliced_none ⟨by size_fits, ?_⟩)))))
  have N5 := N4.ext (h' := h4.push { cls := .type "tuple", data := .seq #[.ref hi, .ref lo] }) push_keep
  refine cmp_pair (filter_ints hI) (filter_ints hI) (htup.push _) ((PlainList.isList hy).push _) ((PlainList.isList hz).push _) ⟨_, Heap.get?_push_size _ rfl, rfl, _, rfl⟩ ((hhi.ext X4).2.2.push _) ((hlo.ext X4).2.2.push _) hun ?_
  exact ite_neg Bool.false_ne_true (wpAny_execs_nil (h _ _ (X4.trans (Ext.of push_keep)) N5))

set_option maxHeartbeats 4000000 in
theorem law_E (B : Bs G mg mb) (hI : ∀ v ∈ NV, IsInt v) (hlen : NV.length ≤ 13) (N : Nm G L m oc D NV s.heap) (R : Room A 20)
    (h : ∀ h' tk', Ext s.heap h' → Nm G L m oc D NV h' → wpAny (model prog w) A (execs ((fnBody 12).drop 6) (lenv L f)) Q (fun _ _ => False) { s with heap := h', toks := tk' }) :
    wpAny (model prog w) A (execs ((fnBody 12).drop 5) (lenv L f)) Q (fun _ _ => False) s := by
  have hun : A.units + 64 < cLine := by have := R.un; omega
  have hszL : NV.toArray.size ≤ sizeLine := by rw [List.size_toArray]; exact Nat.le_trans hlen (by decide)
  refine wpAny_execs_cons (wpAny_If (wpAny_isTrue_Compare1 (callF (nm_g B N.F B.nS ⟨21, rfl, spliced_more (nm_c rfl N.cell (spliced_more (nm_g B N.F B.nE (spliced_none ⟨(IsFn.of B.fS).keeps N.F.wd.st, ?_⟩))))⟩))))
  refine does_S B (h₁ := s.heap) (n := 1) (pd := fun v => iv v == 0) N.list N.notTb (Nat.le_trans hlen (by decide)) ((IsFn.of B.fE).keeps N.F.wd.st) nt42
    (fun v hv => by obtain ⟨t, e⟩ := hI v hv; have := does_E (prog := prog) (w := w) (h₁ := s.heap) B (iv v) t; rw [← e] at this; exact this) _ _ _ _ (Ext.refl _) N.F.wd (R.le (by decide)) fun r h4 tk4 X4 W4 hr => ?_
  obtain ⟨t4, y, z, rfl, ft, fy, fz, htup, hy, hz⟩ := hr
  have N4 := N.call X4 W4
  refine wpAny_Tuple (spliced_more (wpAny_ListComp_map (fun v => iv v == 0) (fun v y => y = v) R.hd (by decide) (by decide) rfl (by decide) rfl (nm_c rfl N4.cell ⟨D, NV.toArray, rfl, N4.list, hszL, ?_, ?_, ?_⟩)))
  · intro C v s₂ m₂ E' hv hns hmx _
    obtain ⟨t, e⟩ := hI v (by simpa using hv)
    refine wpAny_tests_one (wpAny_isTrue_Compare1 (wpAny_Name (wpAny_loadName_local rfl rfl hns hmx ?_)))
    rw [e]
    refine wpAny_Constant_int (eq_int (wpAny_truthy_bool ⟨?_, _, _, rfl, fun _ _ e => e⟩))
    rw [← e]
  · intro C v s₂ m₂ E' hv hp hns hmx _
    exact wpAny_Name (wpAny_loadName_local rfl rfl hns hmx ⟨rfl, _, _, rfl, fun _ _ e => e⟩)
  · intro ze h5 tk5 ys hnew hl5 hpair hk5
    have e5 := paired_eq hpair
    have e5' : ys = (NV.filter fun v => iv v == 0).toArray := by rw [← e5]
    rw [e5'] at hl5
    have N5 := N4.ext hk5
    refine spliced_more (wpAny_ListComp_map (fun v => iv v != 0) (fun v y => y = v) R.hd (by decide) (by decide) rfl (by decide) rfl (nm_c rfl N5.cell ⟨D, NV.toArray, rfl, N5.list, hszL, ?_, ?_, ?_⟩))
    · intro C v s₂ m₂ E' hv hns hmx _
      obtain ⟨t, e⟩ := hI v (by simpa using hv)
      refine wpAny_tests_one (wpAny_isTrue_Compare1 (wpAny_Name (wpAny_loadName_local rfl rfl hns hmx ?_)))
      rw [e]
      refine wpAny_Constant_int (ne_int (wpAny_truthy_bool ⟨?_, _, _, rfl, fun _ _ e => e⟩))
      rw [← e]
    · intro C v s₂ m₂ E' hv hp hns hmx _
      exact wpAny_Name (wpAny_loadName_local rfl rfl hns hmx ⟨rfl, _, _, rfl, fun _ _ e => e⟩)
    · intro nz h6 tk6 ys6 hnew6 hl6 hpair6 hk6
      have e6 := paired_eq hpair6
      have e6' : ys6 = (NV.filter fun v => !(iv v == 0)).toArray := by
        have : ys6.toList = NV.filter fun v => !(iv v == 0) := e6
        rw [← this]
      rw [e6'] at hl6
      have N6 := N5.ext hk6
      have up : ∀ b o, h4.get? b = some o → h6.get? b = some o := fun b o e => hk6 b o (hk5 b o e)
      refine spliced_none ⟨by size_fits, ?_⟩
      have N7 := N6.ext (h' := h6.push { cls := .type "tuple", data := .seq #[.ref ze, .ref nz] }) push_keep
      refine cmp_pair (filter_ints hI) (filter_ints hI) (Heap.IsTuple.push (let ⟨o, e, r⟩ := htup; ⟨o, up _ _ e, r⟩) _) (Heap.IsList.push (let ⟨o, e, r⟩ := PlainList.isList hy; ⟨o, up _ _ e, r⟩) _) (Heap.IsList.push (let ⟨o, e, r⟩ := PlainList.isList hz; ⟨o, up _ _ e, r⟩) _)
        ⟨_, Heap.get?_push_size _ rfl, rfl, _, rfl⟩ (Heap.IsList.push (let ⟨o, e, r⟩ := hl5; ⟨o, hk6 _ _ e, r⟩) _) (hl6.push _) hun ?_
      exact ite_neg Bool.false_ne_true (wpAny_execs_nil (h _ _ (X4.trans (Ext.of fun b o e => push_keep b o (up b o e))) N7))

set_option maxHeartbeats 4000000 in
theorem law_0 (B : Bs G mg mb) (N : Nm G L m oc D NV s.heap) (R : Room A 20)
    (h : ∀ h' tk', Ext s.heap h' → Nm G L m oc D NV h' → wpAny (model prog w) A (execs ((fnBody 12).drop 7) (lenv L f)) Q (fun _ _ => False) { s with heap := h', toks := tk' }) :
    wpAny (model prog w) A (execs ((fnBody 12).drop 6) (lenv L f)) Q (fun _ _ => False) s := by
  have hun : A.units + 64 < cLine := by have := R.un; omega
  have N1 := N.ext (h' := s.heap.push (lst #[] 0)) push_keep
  refine wpAny_execs_cons (wpAny_If (wpAny_isTrue_Compare1 (callF (nm_g B N.F B.nS ⟨21, rfl, spliced_more (wpAny_List (spliced_none ⟨by decide, spliced_more (nm_g B N1.F B.nE (spliced_none ⟨(IsFn.of B.fS).keeps N1.F.wd.st, ?_⟩))⟩))⟩))))
  have hbT : ¬ IsTb s.heap.objs.size := notTb (Nat.lt_trans N.F.big N.F.ns.lt)
  refine does_S B (h₁ := s.heap.push (lst #[] 0)) (vs := []) (n := 1) (pd := fun v => iv v == 0) (PlainList.isList ⟨0, Heap.get?_push_size _ rfl⟩) hbT (by decide) ((IsFn.of B.fE).keeps N1.F.wd.st) nt42
    (fun v hv => nomatch hv) _ _ _ _ (Ext.refl _) N1.F.wd (R.le (by decide)) fun r h4 tk4 X4 W4 hr => ?_
  obtain ⟨t4, y, z, rfl, ft, fy, fz, htup, hy, hz⟩ := hr
  have N4 := N1.call X4 W4
  refine wpAny_Tuple (spliced_more (wpAny_List (spliced_none ⟨by decide, spliced_more (wpAny_List (spliced_none ⟨by decide, spliced_none ⟨by size_fits, ?_⟩⟩))⟩)))
  have N5 := ((N4.ext (h' := h4.push (lst #[] 0)) push_keep).ext (h' := (h4.push (lst #[] 0)).push (lst #[] 0)) push_keep)
  have N6 := N5.ext (h' := ((h4.push (lst #[] 0)).push (lst #[] 0)).push { cls := .type "tuple", data := .seq #[.ref h4.objs.size, .ref (h4.push (lst #[] 0)).objs.size] }) push_keep
  refine cmp_pair (a := []) (b := []) (fun _ hv => nomatch hv) (fun _ hv => nomatch hv) (((htup.push _).push _).push _) ((((PlainList.isList hy).push _).push _).push _) ((((PlainList.isList hz).push _).push _).push _) ⟨_, Heap.get?_push_size _ rfl, rfl, _, rfl⟩
    (((PlainList.isList ⟨0, Heap.get?_push_size _ rfl⟩ : Heap.IsList _ _ _).push _).push _) ((PlainList.isList ⟨0, Heap.get?_push_size _ rfl⟩ : Heap.IsList _ _ _).push _) hun ?_
  exact ite_neg Bool.false_ne_true (wpAny_execs_nil (h _ _ ((Ext.of push_keep).trans (X4.trans (Ext.of fun b o e => push_keep b o (push_keep b o (push_keep b o e))))) N6))
end

def cardOf (h : Heap) : Value → Int × Int
  | .ref a => match h.get? a with
    | some o => match o.data with
      | .seq xs _ => match xs.toList with
        | [.int i _, .int k _] => (i, k)
        | _ => (0, 0)
      | _ => (0, 0)
    | none => (0, 0)
  | _ => (0, 0)
def IsPair (_ : Nat) (o : Obj) : Prop := ∃ i t c u n, o.cls = .type "tuple" ∧ o.data = .seq #[.int i t, .int c u] n
theorem card_of {h : Heap} {a : Addr} {o : Obj} {k : Nat} (e : h.get? a = some o) (p : IsPair k o) (hT : ¬ IsTb a) : Card h (.ref a) (cardOf h (.ref a)).1 (cardOf h (.ref a)).2 := by
  obtain ⟨i, t, c, u, n, hc, hd⟩ := p
  have e1 : cardOf h (.ref a) = (i, c) := by simp only [cardOf, e, hd]
  rw [e1]
  exact ⟨a, t, u, rfl, hT, o, e, hc, n, hd⟩
theorem cards_of {h : Heap} {C : Addr} {ys : List Value} (x : Els C IsPair h ys) (hC : 65 < C) : ∀ v ∈ ys, Card h v (cardOf h v).1 (cardOf h v).2 := fun v hv => by
  obtain ⟨k, hk, e⟩ := List.getElem_of_mem hv
  obtain ⟨T, o, e1, e2, e3, e4⟩ := x k hk
  rw [List.getElem?_eq_getElem hk, e] at e1
  cases e1
  exact card_of e3 e4 (notTb (Nat.lt_trans hC e2))

section
variable {prog : Program} {w : World} {A : Around} {s : Shared} {G : Heap} {L f : Addr} {m mg mb : Str → Option Value} {oc : Obj} {D : Addr} {NV : List Value} {Q : Flow → Shared → Prop}

set_option maxHeartbeats 4000000 in
theorem law_C (B : Bs G mg mb) (hI : ∀ v ∈ NV, IsInt v) (hlen : NV.length ≤ 13) (N : Nm G L m oc D NV s.heap) (R : Room A 20)
    (h : ∀ cd ys h' tk', Lst L h' cd ys → ys.length ≤ 13 → (∀ v ∈ ys, Card h' v (cardOf h' v).1 (cardOf h' v).2) → Nm G L (fun z => if z = Str.ofString "cards" then some (.ref cd) else m z) oc D NV h' →
      wpAny (model prog w) A (execs ((fnBody 12).drop 8) (lenv L f)) Q (fun _ _ => False) { s with heap := h', toks := tk' }) :
    wpAny (model prog w) A (execs ((fnBody 12).drop 7) (lenv L f)) Q (fun _ _ => False) s := by
  have hfit : (NV.toArray.size : Int) < 2 ^ 63 := by rw [List.size_toArray]; omega
  refine wpAny_execs_cons (assign_cards (n := NV.length) (cl := [(Str.ofString "numbers", L + 1)]) IsPair rfl rfl (by decide) rfl (by decide) rfl rfl rfl R.hd (by omega) ?_)
  refine callT (nm_b B N.F B.xRange B.bRange ⟨rfl, callB (nm_b B N.F B.xLen B.bLen ⟨rfl, nm_c rfl N.cell (len_list N.list hfit (call_range_1 ?_))⟩)⟩)
  have N1 := N.ext (h' := s.heap.push { cls := .type "range", data := .fields #[.int 0 (s.toks + 1 + 1), .int (NV.toArray.size : Nat) (s.toks + 1), .int 1 (s.toks + 1 + 1 + 1)] }) push_keep
  refine ⟨_, _, _, _, m, rfl, IsRange.new _ 0 _ 1 _ _ _, N1.F.ns, ?_, ?_⟩
  · intro C i ti s₂ m₂ hi hns hmx hk
    have N2 := N1.ext hk
    have hat : NV[i]? = some NV[i] := List.getElem?_eq_getElem hi
    have hint := hI _ (List.getElem_mem hi)
    generalize NV[i] = vi at hat hint
    obtain ⟨t, e⟩ := hint
    have fi : ((i : Nat) : Int) < 2 ^ 63 := by omega
    refine wpAny_Tuple (spliced_more (Subscript_ (wpAny_Name (wpAny_loadName_cell rfl rfl rfl N2.cell (wpAny_Name (wpAny_loadName_local rfl rfl hns hmx ?_))))))
    refine tail_any N2.list.typeIs slot_list_getitem.lookup (wpAny_getItem_list N2.list (Int.natCast_nonneg _) fi (x := vi) (by simpa using hat) ?_) (by with_unfolding_all rfl)
    refine spliced_more (wpAny_BinOp (wpAny_Name (wpAny_loadName_local rfl rfl hns hmx (wpAny_Constant_int (mod_int (by decide) (spliced_none ⟨by size_fits, ?_⟩))))))
    refine ⟨⟨_, _, rfl, Nat.le_refl _, Heap.get?_push_size _ rfl, ?_⟩, _, _, rfl, push_keep⟩
    rw [e]
    exact ⟨_, _, _, _, _, rfl, rfl⟩
  · intro cd C h' tk ys hcd hC hpl hys hE hns hk
    have hL1 := N1.F.ns.lt
    have hcdT : ¬ IsTb cd := notTb (Nat.lt_trans N1.F.big (Nat.lt_of_lt_of_le hL1 hcd))
    exact h cd ys h' tk ⟨hcdT, Nat.ne_of_gt (Nat.lt_of_lt_of_le hL1 hcd), PlainList.isList hpl⟩ (hys ▸ hlen) (cards_of hE (Nat.lt_trans N1.F.big (Nat.lt_of_lt_of_le hL1 hC))) (N1.store' hns hk)
end

theorem Rs.mem {key : Value → Int} {vs ws : List Value} (x : Rs key vs ws) : ∀ v ∈ ws, v ∈ vs := by
  induction x with
  | nil => intro v hv; exact hv
  | cons mid _ _ _ ih1 ih2 =>
    intro v hv
    rcases List.mem_append.mp hv with hv | hv
    · rcases List.mem_append.mp hv with hv | hv
      · exact (List.mem_filter.mp (ih1 v hv)).1
      · exact (List.mem_filter.mp hv).1
    · exact (List.mem_filter.mp (ih2 v hv)).1

theorem cards_eqv {key val : Value → Int} (vs : List Value) : PyData.eqv (.list (vs.map fun v => cdata (key v) (val v))) (.list (vs.map fun v => cdata (key v) (val v))) = true :=
  SeqAt.eqv_refl _ (by rw [PyData.canLay0]; exact cards_canLay vs)

section
variable {prog : Program} {w : World} {A : Around} {s : Shared} {G : Heap} {L f : Addr} {m mg mb : Str → Option Value} {oc : Obj} {D : Addr} {NV : List Value} {Q : Flow → Shared → Prop} {cd : Addr} {ys : List Value} {key val : Value → Int}

set_option maxHeartbeats 4000000 in
theorem law_R (B : Bs G mg mb) (N : Nm G L m oc D NV s.heap) (R : Room A 20) (hcd : Lst L s.heap cd ys) (hlen : ys.length ≤ 13) (hc : ∀ v ∈ ys, Card s.heap v (key v) (val v)) (mcd : m (Str.ofString "cards") = some (.ref cd))
    (h : ∀ h' tk', Ext s.heap h' → Nm G L m oc D NV h' → wpAny (model prog w) A (execs ((fnBody 12).drop 9) (lenv L f)) Q (fun _ _ => False) { s with heap := h', toks := tk' }) :
    wpAny (model prog w) A (execs ((fnBody 12).drop 8) (lenv L f)) Q (fun _ _ => False) s := by
  have hun : A.units + 64 < cLine := by have := R.un; omega
  refine wpAny_execs_cons (wpAny_If (wpAny_isTrue_Compare1 (callF (nm_g B N.F B.nR ⟨49, rfl, spliced_more (nm_l N.F mcd (spliced_none ⟨(IsFn.of B.fR).keeps N.F.wd.st, ?_⟩))⟩))))
  refine does_R B key val 13 (by decide) s.heap cd ys hlen hcd.2.2 hcd.1 hc _ _ _ _ (Ext.refl _) N.F.wd (R.le (by decide)) fun r h4 tk4 X4 W4 hr => ?_
  obtain ⟨r1, ws, rfl, fr1, rs, hp1⟩ := hr
  have N4 := N.call X4 W4
  have hr1T : ¬ IsTb r1 := notTb (Nat.lt_trans N.F.big (Nat.lt_of_lt_of_le N.F.ns.lt fr1))
  refine callF (nm_g B N4.F B.nP ⟨63, rfl, spliced_more (nm_l N4.F mcd (spliced_more ?_))⟩)
  refine mk_lambda (clos := []) B N4.F rfl B.cL (.tail _ (.tail _ (.head _))) rfl rfl rfl rfl fun g c' pm ctv h5 tk5 X5 F5 hcT hrec => ?_
  have hg5 := F5.get (.head _)
  have hgT : ¬ IsTb g := notTb (Nat.lt_trans F5.big (F5.nw _ (.head _)).2)
  have N5 : Nm G L m oc D NV h5 := ⟨F5.sub (fun p hp => .tail _ hp), N.hoc⟩
  have hlam : ∀ a t b u, Does prog w G h5 1 (.ref g) [.int a t, .int b u] (fun _ r _ => r = .bool (decide (id a < id b))) := by
    intro a t b u A1 s1 Q1 E1 X1 W1 R1 k1
    refine enterLam (k := 0) (binds := [(Str.ofString "a", .int a t), (Str.ofString "b", .int b u)]) B (X1 _ _ hgT hg5) (let ⟨c2, o2, vs2, t2, e1, e2, e3⟩ := hrec; ⟨c2, o2, vs2, t2, e1, X1 _ _ (by cases e1; exact hcT) e2, e3⟩) W1 R1 rfl (by decide) (locs rfl) rfl rfl rfl fun h6 F6 R6 => ?_
    exact wpAny_Compare1 (nm_l F6 rfl (nm_l F6 rfl (lt_int (k1 _ _ _ F6.keep F6.wd rfl))))
  refine spliced_none ⟨(IsFn.of B.fP).keeps F5.wd.st, ?_⟩
  refine does_P B key val id (fun _ _ e => e) (h₁ := h5) (n := 1) ((hcd.ext X4).ext X5).2.2 hcd.1 (Nat.le_trans hlen (by decide)) (fun v hv => ((hc v hv).ext X4).ext X5) ⟨_, _, _, _, hg5⟩ hgT hlam _ _ _ _ (Ext.refl _) F5.wd (R.le (by decide)) fun r h7 tk7 X7 W7 hr => ?_
  obtain ⟨r2, rfl, fr2, hp2⟩ := hr
  have e2 : pu (fun v => id (key v)) ys ys.length = ws := placed_is rs
  rw [e2] at hp2
  have N7 := N5.call X7 W7
  have X57 : Ext h4 h7 := X5.trans X7
  have hcw : ∀ v ∈ ws, Card h7 v (key v) (val v) := fun v hv => ((hc v (rs.mem v hv)).ext X4).ext X57
  have hl1 : h7.IsList r1 ws.toArray := let ⟨o, e, r⟩ := PlainList.isList hp1; ⟨o, X57 _ _ hr1T e, r⟩
  refine ne_dataH (list_reads hl1 (cards_reads hcw)) (list_reads hp2 (cards_reads hcw)) (cards_shaped _) (cards_shaped _) hun (wpAny_truthy_bool ?_)
  rw [cards_eqv]
  exact ite_neg Bool.false_ne_true (wpAny_execs_nil (h _ _ (X4.trans X57) N7))

set_option maxHeartbeats 4000000 in
theorem law_F (B : Bs G mg mb) (N : Nm G L m oc D NV s.heap) (R : Room A 20) (hcd : Lst L s.heap cd ys) (hlen : ys.length ≤ 13) (hc : ∀ v ∈ ys, Card s.heap v (key v) (val v)) (mcd : m (Str.ofString "cards") = some (.ref cd))
    (h : ∀ h' tk' m', Fm G G L m' [] h' → Q (.ret (.bool true)) { s with heap := h', toks := tk' }) :
    wpAny (model prog w) A (execs ((fnBody 12).drop 9) (lenv L f)) Q (fun _ _ => False) s := by
  have hun : A.units + 64 < cLine := by have := R.un; omega
  refine wpAny_execs_cons (wpAny_Return_some (wpAny_Compare1 (callF (nm_g B N.F B.nF ⟨56, rfl, spliced_more (nm_l N.F mcd (spliced_none ⟨(IsFn.of B.fF).keeps N.F.wd.st, ?_⟩))⟩))))
  refine does_F B key val 13 (by decide) s.heap cd ys hlen hcd.2.2 hcd.1 hc _ _ _ _ (Ext.refl _) N.F.wd (R.le (by decide)) fun r h4 tk4 X4 W4 hr => ?_
  obtain ⟨r1, ws, rfl, fr1, rs, hp1⟩ := hr
  have N4 := N.call X4 W4
  have hr1T : ¬ IsTb r1 := notTb (Nat.lt_trans N.F.big (Nat.lt_of_lt_of_le N.F.ns.lt fr1))
  refine callF (nm_g B N4.F B.nP ⟨63, rfl, spliced_more (nm_l N4.F mcd (spliced_more ?_))⟩)
  refine mk_lambda (clos := []) B N4.F rfl B.cL (.tail _ (.tail _ (.head _))) rfl rfl rfl rfl fun g c' pm ctv h5 tk5 X5 F5 hcT hrec => ?_
  have hg5 := F5.get (.head _)
  have hgT : ¬ IsTb g := notTb (Nat.lt_trans F5.big (F5.nw _ (.head _)).2)
  have N5 : Nm G L m oc D NV h5 := ⟨F5.sub (fun p hp => .tail _ hp), N.hoc⟩
  have hlam : ∀ a t b u, Does prog w G h5 1 (.ref g) [.int a t, .int b u] (fun _ r _ => r = .bool (decide (-a < -b))) := by
    intro a t b u A1 s1 Q1 E1 X1 W1 R1 k1
    refine enterLam (k := 0) (binds := [(Str.ofString "a", .int a t), (Str.ofString "b", .int b u)]) B (X1 _ _ hgT hg5) (let ⟨c2, o2, vs2, t2, e1, e2, e3⟩ := hrec; ⟨c2, o2, vs2, t2, e1, X1 _ _ (by cases e1; exact hcT) e2, e3⟩) W1 R1 rfl (by decide) (locs rfl) rfl rfl rfl fun h6 F6 R6 => ?_
    exact wpAny_Compare1 (nm_l F6 rfl (nm_l F6 rfl (gt_int (k1 _ _ _ F6.keep F6.wd (by congr 1; exact decide_eq_decide.mpr (by omega))))))
  refine spliced_none ⟨(IsFn.of B.fP).keeps F5.wd.st, ?_⟩
  refine does_P B key val (fun x => -x) (fun a b e => by have e' : -a = -b := e; omega) (h₁ := h5) (n := 1) ((hcd.ext X4).ext X5).2.2 hcd.1 (Nat.le_trans hlen (by decide)) (fun v hv => ((hc v hv).ext X4).ext X5) ⟨_, _, _, _, hg5⟩ hgT hlam _ _ _ _ (Ext.refl _) F5.wd (R.le (by decide)) fun r h7 tk7 X7 W7 hr => ?_
  obtain ⟨r2, rfl, fr2, hp2⟩ := hr
  have e2 : pu (fun v => -(key v)) ys ys.length = ws := placed_is rs
  rw [e2] at hp2
  have N7 := N5.call X7 W7
  have X57 : Ext h4 h7 := X5.trans X7
  have hcw : ∀ v ∈ ws, Card h7 v (key v) (val v) := fun v hv => ((hc v (rs.mem v hv)).ext X4).ext X57
  have hl1 : h7.IsList r1 ws.toArray := let ⟨o, e, r⟩ := PlainList.isList hp1; ⟨o, X57 _ _ hr1T e, r⟩
  refine eq_dataH (list_reads hl1 (cards_reads hcw)) (list_reads hp2 (cards_reads hcw)) (cards_shaped _) (cards_shaped _) hun ?_
  rw [cards_eqv]
  exact h _ _ _ (N7.F.sub fun p hp => nomatch hp)

theorem law_body {l : Addr} {vs : List Value} {ns : List Int} (B : Bs G mg mb) (F0 : Fm G G L m [(L + 1, oc)] s.heap) (hoc : oc.data = .cell none) (hm : m (Str.ofString "script") = some (.ref l)) (hl : G.IsList l vs.toArray) (hi : IntsAre vs ns) (hsz : vs.length ≤ 63) (R : Room A 20)
    (h : ∀ h' tk' m', Fm G G L m' [] h' → Q (.ret (.bool true)) { s with heap := h', toks := tk' }) :
    wpAny (model prog w) A (execs (fnBody 12) (lenv L f)) Q (fun _ _ => False) s := by
  refine law_A B F0 hoc hm hl hi hsz fun oc1 D NV h1 tk1 hI hlen N1 => ?_
  refine law_low hI hlen N1 R fun lo h2 tk2 hlo N2 k2 => ?_
  refine law_high hI hlen N2 R fun hi h3 tk3 hhi N3 k3 => ?_
  have hlo3 := hlo.but k3
  refine law_T B hI hlen N3 R hlo3 hhi ((if_neg (by decide)).trans (if_pos rfl)) (if_pos rfl) fun h4 tk4 X4 N4 => ?_
  refine law_N B hI hlen N4 R (hlo3.ext X4) (hhi.ext X4) ((if_neg (by decide)).trans (if_pos rfl)) (if_pos rfl) fun h5 tk5 X5 N5 => ?_
  refine law_E B hI hlen N5 R fun h6 tk6 X6 N6 => ?_
  refine law_0 B N6 R fun h7 tk7 X7 N7 => ?_
  refine law_C B hI hlen N7 R fun cd ys h8 tk8 hcd hlen8 hc N8 => ?_
  refine law_R B N8 R hcd hlen8 hc (if_pos rfl) fun h9 tk9 X9 N9 => ?_
  exact law_F B N9 R (hcd.ext X9) hlen8 (fun v hv => (hc v hv).ext X9) (if_pos rfl) h
end

theorem fm_start {G h : Heap} {L : Addr} {m : Str → Option Value} {o : Obj} (F : Fr G L h m) (N : News G L h [(L + 1, o), (51, tabObj #[]), (44, tabObj #[]), (65, tabObj #[])]) (hb : 65 < G.objs.size) : Fm G G L m [(L + 1, o)] h where
  ns := F.ns
  keep := Ext.of F.keep
  above := F.above
  base := F.above
  big := Nat.lt_of_lt_of_le hb F.above
  wd := { st := F.keep, sz := Nat.le_trans F.above (Nat.le_of_lt F.ns.lt)
          tb := fun p hp => by
            have key : ∀ P, (P, tabObj #[]) ∈ [(L + 1, o), (51, tabObj #[]), (44, tabObj #[]), (65, tabObj #[])] → ∀ q, TabAt h P q := fun P hP q => ⟨#[], (N _ hP).1, trivial, fun pos cv e => by cases e⟩
            simp only [tq, List.mem_cons, List.not_mem_nil, or_false] at hp
            rcases hp with rfl | rfl | rfl
            · exact key _ (.tail _ (.tail _ (.head _))) _
            · exact key _ (.tail _ (.head _)) _
            · exact key _ (.tail _ (.tail _ (.tail _ (.head _)))) _ }
  nw := fun p hp => by rw [List.mem_singleton.mp hp]; exact ⟨(N _ (.head _)).1, Nat.lt_succ_self _⟩
theorem fr_of {G h : Heap} {L : Addr} {m : Str → Option Value} {own : List (Addr × Obj)} (F : Fm G G L m own h) : Fr G L h m := ⟨F.ns, F.wd.st, F.above⟩
theorem grown_of {G h : Heap} (W : Wd G h) : GrownAll [(55, 51), (48, 44), (67, 65)] h := by
  have key : ∀ p ∈ tq, GrownAt p.1 h := fun p hp => let ⟨ps, e, _⟩ := W.tb p hp; ⟨ps, e⟩
  exact ⟨key _ (.tail _ (.head _)), key _ (.head _), key _ (.tail _ (.tail _ (.head _))), trivial⟩

theorem room_start (env : Env) : Room (callerA.deeper env) 20 := ⟨rfl, by rw [depth_deeper, depth_caller]; decide, by rw [units_deeper, units_caller]; have := cLine_is; omega⟩

end Mine
open Mine

set_option maxRecDepth 100000 in
set_option maxHeartbeats 8000000 in
theorem PySem.Challenge.cw_mr0019_01_holds : PySem.Challenge.rw_mr0019_01.Holds := by
  w_on
  o_law
  k_head
  (case hw => w_witness2)
  k_go0
  (rename Frag.In _ (ghostOf _ _) => KX)
  (rename Top _ _ _ _ _ (ghostOf _ _) => TT)
  (rename Fr _ _ _ _ => FF)
  (rename News _ _ _ _ => NN)
  (rename IntsAre _ _ => HI)
  (rename Heap.IsList (ghostOf _ _) _ _ => HL)
  (rename (51 < _ ∧ _) => hz)
  (rename (¬ (_ : Int) < _) => h63)
  have CA := ghost_code hT9
  have hb : 65 < (ghostOf _ [(55, 51), (48, 44), (67, 65)]).objs.size := (hideAll_size _ _).symm ▸ hz.2.2
  have F0 := fm_start FF NN hb
  have BB : Bs _ _ _ := {
    g := TT.g
    b := TT.b
    lim := TT.nolimit
    bg := hb
    bm := TT.bmain
    hid := fun p hp => hideAll_none _ (by simp only [tq, List.mem_cons, List.not_mem_nil, or_false] at hp; rcases hp with rfl | rfl | rfl <;> decide)
    cR := CA.2.1
    cF := CA.1
    cL := CA.2.2.1
    fS := ⟨_, KX _ _ (by with_unfolding_all rfl), codeRec_of KX (by with_unfolding_all rfl)⟩
    fT := ⟨_, KX _ _ (by with_unfolding_all rfl), codeRec_of KX (by with_unfolding_all rfl)⟩
    fN := ⟨_, KX _ _ (by with_unfolding_all rfl), codeRec_of KX (by with_unfolding_all rfl)⟩
    fE := ⟨_, KX _ _ (by with_unfolding_all rfl), codeRec_of KX (by with_unfolding_all rfl)⟩
    fR := ⟨_, KX _ _ (by with_unfolding_all rfl), codeRec_of KX (by with_unfolding_all rfl)⟩
    fF := ⟨_, KX _ _ (by with_unfolding_all rfl), codeRec_of KX (by with_unfolding_all rfl)⟩
    fP := ⟨_, KX _ _ (by with_unfolding_all rfl), codeRec_of KX (by with_unfolding_all rfl)⟩
    nS := mg_of KX TT.g (by with_unfolding_all rfl)
    nT := mg_of KX TT.g (by with_unfolding_all rfl)
    nN := mg_of KX TT.g (by with_unfolding_all rfl)
    nE := mg_of KX TT.g (by with_unfolding_all rfl)
    nR := mg_of KX TT.g (by with_unfolding_all rfl)
    nF := mg_of KX TT.g (by with_unfolding_all rfl)
    nP := mg_of KX TT.g (by with_unfolding_all rfl)
    nEnd := ⟨_, mg_of KX TT.g (by with_unfolding_all rfl)⟩
    nOff := ⟨_, mg_of KX TT.g (by with_unfolding_all rfl)⟩
    xLen := mg_none_of KX TT.g (by with_unfolding_all rfl)
    xRange := mg_none_of KX TT.g (by with_unfolding_all rfl)
    xList := mg_none_of KX TT.g (by with_unfolding_all rfl)
    bLen := (TT.builtins _ (by decide)).trans (by with_unfolding_all rfl)
    bRange := (TT.builtins _ (by decide)).trans (by with_unfolding_all rfl)
    bList := (TT.builtins _ (by decide)).trans (by with_unfolding_all rfl) }
  refine wpAny_mono (law_body BB F0 (by assumption) rfl HL HI (by rw [HI.length]; omega) (room_start _) ?_) (fun _ _ e => e) (fun _ _ e => e.elim)
  intro h' tk' m' F'
  have FR := fr_of F'
  have GR := grown_of F'.wd
  refine ⟨?_, GR⟩
  dsimp only
  wrow_close
