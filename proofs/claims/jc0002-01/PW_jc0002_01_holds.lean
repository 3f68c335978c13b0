import PyProof.Rows.All
import Wide.All
import OpenK.AllK
import Wide.FinOn
import PySem.Challenge.RW_jc0002_01
open PySem PySem.W PyProof.Rows PySem.Calls PySem.Spec
set_option Elab.async false
set_option maxRecDepth 100000
set_option compiler.extract_closed false
set_option maxHeartbeats 0
set_option linter.defProp false
namespace Mine
theorem said0 : PySem.W.Fast.tw9446332074065402090 PySem.Challenge.rw_jc0002_01 = true := by kernel_rfl
theorem said : OpenLaw.wellSaid PySem.Challenge.rw_jc0002_01 = true := (congrFun PySem.W.Fast.te9446332074065402090 _).trans said0
theorem three {a b c : Prop} (hl : a) (hc : c) (main : b) : b := (fun (_ : a) (_ : c) => main) hl hc
def hd := (fun (walk : _) => (by
  w_on
  refine holds_law said fun said => ?_
  apply three
  case main =>
    k_head
    case hw => w_witness2
  case hc => exact walk
  case hl => intro w; kernel_rfl : PySem.Challenge.rw_jc0002_01.Holds))
noncomputable abbrev PR := PySem.Challenge.rw_jc0002_01.row.prog
abbrev Led := List (Addr × Obj)
/-- what a contract hands on: the answer, its new objects ahead of the caller's ledger -/
noncomputable def Ret (h₀ : Heap) (L : Addr) (m : Str → Option Value) (news : Led) (s : Shared) (Q : Value → Shared → Prop) (D : Led → Value → Prop) : Prop :=
  ∀ (v : Value) (new : Led) (h' : Heap) (tk' : Nat), Fr h₀ L h' m → News h₀ L h' (new ++ news) → (∀ q ∈ news, ∀ p ∈ new, @Ne Nat q.1 p.1) → D new v → Q v { s with heap := h', toks := tk' }
theorem news_sub {h₀ h : Heap} {L : Addr} {l l' : Led} {a : Addr × Obj} (N : News h₀ L h l) (ha : a ∈ l) (h' : News h₀ L h l') : News h₀ L h (a :: l') := fun p hp => by
  rcases List.mem_cons.mp hp with e | hp
  · rw [e]; exact N _ ha
  · exact h' p hp
theorem mem_skip {α : Type} {x p : α} {a b : List α} (h : p ∈ a ++ b) : p ∈ a ++ x :: b := (List.mem_append.mp h).elim (fun h => List.mem_append_left _ h) fun h => List.mem_append_right _ (.tail _ h)
/-- what a datum's bearer looks like (opened once) -/
inductive LstIn (led : Led) (ds : List Dat) : Value → Prop
  | mk (a : Addr) (vs : List Value) (n : Nat) (_ : (a, listOf vs.toArray n) ∈ led) (_ : DatAll led vs ds) : LstIn led ds (.ref a)
inductive TupIn (led : Led) (ds : List Dat) : Value → Prop
  | mk (a : Addr) (vs : List Value) (n : Nat) (_ : (a, ({ cls := .type "tuple", data := .seq vs.toArray n } : Obj)) ∈ led) (_ : DatAll led vs ds) : TupIn led ds (.ref a)
theorem dat_list {led : Led} {v : Value} {ds : List Dat} (h : DatIn led v (.list ds)) : LstIn led ds v := by
  cases h with
  | list hm ha => exact ⟨_, _, _, hm, ha⟩
theorem dat_tuple {led : Led} {v : Value} {ds : List Dat} (h : DatIn led v (.tuple ds)) : TupIn led ds v := by
  cases h with
  | tuple hm ha => exact ⟨_, _, _, hm, ha⟩
theorem dat_str {led : Led} {v : Value} {x : Str} (h : DatIn led v (.str x)) : ∃ t, v = .str x t := by
  cases h with
  | str _ t => exact ⟨t, rfl⟩
theorem dat_none {led : Led} {v : Value} (h : DatIn led v .none) : v = .none := by cases h; rfl
theorem dat_int {led : Led} {v : Value} {i : Int} (h : DatIn led v (.int i)) : ∃ t, v = .int i t := by
  cases h with
  | int _ t => exact ⟨t, rfl⟩
theorem dat_nil {led : Led} {vs : List Value} (h : DatAll led vs []) : vs = [] := by cases h; rfl
theorem dat_cons {led : Led} {vs : List Value} {d : Dat} {ds : List Dat} (h : DatAll led vs (d :: ds)) : ∃ v us, vs = v :: us ∧ DatIn led v d ∧ DatAll led us ds := by
  cases h with
  | cons h1 h2 => exact ⟨_, _, rfl, h1, h2⟩
theorem dat_map {α : Type} {led : Led} {vs : List Value} {f : α → Dat} {l : List α} {i : Nat} {v : Value} (h : DatAll led vs (l.map f)) (hv : vs[i]? = some v) (hi : i < l.length) : DatIn led v (f l[i]) := by
  obtain ⟨v', hv', hD⟩ := h.get (k := i) (by simpa using hi)
  have e : v' = v := Option.some.inj (hv'.symm.trans hv)
  rw [List.getElem_map] at hD
  exact e ▸ hD
theorem dat_two {led : Led} {v : Value} {x y : Str} (h : DatIn led v (.tuple [.str x, .str y])) : ∃ T n u1 u2, v = .ref T ∧ (T, ({ cls := .type "tuple", data := .seq [Value.str x u1, .str y u2].toArray n } : Obj)) ∈ led := by
  obtain ⟨a, vs, n, hm, ha⟩ := dat_tuple h
  obtain ⟨v1, us, rfl, h1, h2⟩ := dat_cons ha
  obtain ⟨v2, us', rfl, h3, h4⟩ := dat_cons h2
  obtain rfl := dat_nil h4
  obtain ⟨u1, rfl⟩ := dat_str h1
  obtain ⟨u2, rfl⟩ := dat_str h3
  exact ⟨a, n, u1, u2, rfl, hm⟩
/-- a caller's frame, as one letter -/
structure KT where
  dp : Nat
  un : Nat
  gd : Option (List Code)
  cn : Str
  cs : Scope
  L : Addr
  a : Addr
  ccd : Value
  cl : List (Str × Addr)
  outer : List Env
abbrev ktS (k : KT) : Around := ktrTop k.dp k.un k.gd k.cn k.cs k.L k.a k.ccd k.cl k.outer
abbrev ktT (k : KT) : Around := ktrTop k.dp k.un k.gd k.cn k.cs k.L k.a k.ccd k.cl []
/-- a def's contract: n frames deep at most -/
noncomputable def Con (w : World) (f : Addr) (news : Led) (vs : List Value) (n : Nat) (D : Led → Value → Prop) : Prop :=
  ∀ (loose : List Str) (mean : ExcName → Option Value) (mg mb : Str → Option Value) (kt : KT) (A₀ : Around) (base h₀ : Heap) (m : Str → Option Value) (hp : Heap) (g0 : Array GenState) (d0 : Drawn) (t0 : Nat) (o0 : OsState) (Q E : Value → Shared → Prop),
    Below A₀ base kt.outer h₀ → Fr h₀ kt.L hp m → (Mine.hd.heap_1 w.params).In h₀ → News h₀ kt.L hp news → Top Mine.hd.view_1 loose mean mg mb h₀ → kt.cs.kind = .function →
    kt.dp + n ≤ 900 → kt.un + 100 * n ≤ 2000 → Ret h₀ kt.L m news ⟨hp, g0, d0, t0, o0⟩ Q D →
      wpAny (model PR w) (ktS kt) (call (.ref f) vs) Q E ⟨hp, g0, d0, t0, o0⟩
theorem Con.use {w : World} {f : Addr} {news : Led} {vs : List Value} {n : Nat} {D : Led → Value → Prop} (C : Con w f news vs n D) (loose : List Str) (mean : ExcName → Option Value) (mg mb : Str → Option Value) (dp un : Nat) (gd : Option (List Code)) (cn : Str) (cs : Scope) (a : Addr) (ccd : Value) (cl : List (Str × Addr)) (outer : List Env) (A₀ : Around) (base h₀ : Heap) (L : Addr) (m : Str → Option Value) (s : Shared) (Q E : Value → Shared → Prop)
    (B : Below A₀ base outer h₀) (F : Fr h₀ L s.heap m) (X : (Mine.hd.heap_1 w.params).In h₀) (N : News h₀ L s.heap news) (T : Top Mine.hd.view_1 loose mean mg mb h₀) (hk : cs.kind = .function) (hd : dp + n ≤ 900) (hu : un + 100 * n ≤ 2000) (hr : Ret h₀ L m news s Q D) :
      wpAny (model PR w) (ktrTop dp un gd cn cs L a ccd cl outer) (call (.ref f) vs) Q E s :=
  C loose mean mg mb ⟨dp, un, gd, cn, cs, L, a, ccd, cl, outer⟩ A₀ base h₀ m s.heap s.gens s.drawn s.toks s.os Q E B F X N T hk hd hu hr
/-- what stands at a def's entry of the caller: g is the caller's heap less args -/
structure EntP (h₀ : Heap) (L : Addr) (m : Str → Option Value) (g : Heap) (s : Shared) (news args : Led) (Q : Value → Shared → Prop) (D : Led → Value → Prop) : Prop where
  back : ∀ b o, s.heap.get? b = some o → b ∉ args.map (·.1) → g.get? b = some o
  N : News h₀ L s.heap news
  sub : ∀ p ∈ args, p ∈ news
  ret : Ret h₀ L m news s Q D
/-- a def's end: which objects are handed on -/
inductive EndP (args led : Led) (D : Led → Value → Prop) (v : Value) : Prop
  | mk (new : Led) (_ : (∀ p ∈ new, p ∈ led)) (_ : (∀ p ∈ new, ∀ q ∈ args, @Ne Nat p.1 q.1)) (_ : D new v) : EndP args led D v
theorem leaveP {h₀ g h' : Heap} {L L' : Addr} {m m' : Str → Option Value} {hp : Heap} {g0 : Array GenState} {d0 : Drawn} {t0 : Nat} {o0 : OsState} {news args led : Led} {Q : Value → Shared → Prop} {D : Led → Value → Prop} {R : Result → Shared → Prop} {v : Value} {tk : Nat}
    (X : EntP h₀ L m g ⟨hp, g0, d0, t0, o0⟩ news args Q D := by with_reducible assumption) (hR : ∀ v s', Q v s' → R (.ok (.ret v)) s' := by exact fun _ _ h => h) (F' : Fr g L' h' m' := by k_asm) (N' : News g L' h' led := by k_asm) (hin : ∀ p ∈ args, p ∈ led := by kqd_sub) (e : EndP args led D v) :
    LeaveK h₀ L m g R v ⟨h', g0, d0, tk, o0⟩ := by
  obtain ⟨new, h1, h2, hD⟩ := e
  refine ⟨L', m', led, F', N', fun kF kN => hR _ _ (X.ret v new h' tk kF (fun p hp => ?_) (fun q hq p hp e => ?_) hD)⟩
  · rcases List.mem_append.mp hp with hp | hp
    · exact kN p (h1 p hp)
    · have hN := X.N p hp
      refine ⟨?_, hN.2⟩
      by_cases hb : p.1 ∈ args.map (·.1)
      · obtain ⟨q, hq, e⟩ := List.mem_map.mp hb
        have h3 := (X.N q (X.sub q hq)).1
        rw [e, hN.1] at h3
        have : p = q := Prod.ext e.symm (Option.some.inj h3)
        rw [this]
        exact (kN q (hin q hq)).1
      · exact F'.keep _ _ (X.back _ _ hN.1 hb)
  · have h3 := (N' p (h1 p hp)).2.2
    have h4 := (X.N q hq).1
    have hb : q.1 ∉ args.map (·.1) := fun hb => by
      obtain ⟨r, hr, e'⟩ := List.mem_map.mp hb
      exact h2 p hp r hr (e'.trans e).symm
    have h5 := X.back _ _ h4 hb
    have e2 : q.1 = p.1 := e
    rw [e2, h3] at h5
    cases h5
theorem look1 {a : Str} {v : Value} : (fun y => ([(a, v)] : List (Str × Value)).reverse.lookup y) = fun y => if y = a then some v else none := by
  funext y
  by_cases h : y = a
  · subst h; simp
  · simp [List.lookup, h]
    have : (y == a) = false := by simpa using h
    rw [this]
theorem look2 {a b : Str} {v u : Value} : (fun y => ([(a, v), (b, u)] : List (Str × Value)).reverse.lookup y) = fun y => if y = b then some u else if y = a then some v else none := by
  funext y
  have e1 : (y == b) = decide (y = b) := by by_cases h : y = b <;> simp [h]
  have e2 : (y == a) = decide (y = a) := by by_cases h : y = a <;> simp [h]
  simp only [List.reverse_cons, List.reverse_nil, List.nil_append, List.cons_append, List.lookup, e1, e2]
  by_cases h : y = b
  · simp [h]
  · by_cases h2 : y = a
    · subst h2; simp [h]
    · simp [h, h2]
theorem bind1 {k : Str → Option NameKind} {a : Str} {v : Value} (h : k a = some .local) : bindL k [(a, v)] (fun _ => none) = fun y => if y = a then some v else none := by
  show (if k a = some .local then (fun y => if y = a then some v else none) else fun _ => none) = _
  rw [if_pos h]
section
variable {prog : Program} {w : World} {A₀ A : Around} {s : Shared} {base h₀ : Heap} {outer : List Env} {L : Addr} {m : Str → Option Value} {env : Env} {news args : Led} {K : Frag} {p : Program} {loose : List Str} {mean : ExcName → Option Value} {mg mb : Str → Option Value}
  {R : Result → Shared → Prop} {name qual : Str} {params : Arguments} {body : List Stmt} {scope : Scope} {dV kV doc pm cdv ct oc : Value} {an od : Option Addr} {osl : Array (Option Value)} {f : Addr} {vals : Args} {binds : List (Str × Value)}
  {Q : Value → Shared → Prop} {D : Led → Value → Prop}
theorem enterP {m₁ : Str → Option Value} {binds₀ : List (Str × Value)} (B : Below A₀ base outer h₀ := by k_asm) (F : Fr h₀ L s.heap m := by k_asm) (X₀ : K.In h₀ := by k_asm) (N : News h₀ L s.heap news := by k_asm) (T : Top p loose mean mg mb h₀ := by k_asm) (hA : A.frames = some (env :: outer) := by exact rfl) (hf : env.frame = some L := by exact rfl) (hke : env.scope.kind = .function := by assumption)
    (ho : K.lookup f = some ⟨oc, od, .func (fnOf name qual params body scope dV kV doc pm an cdv ct), osl⟩ := by k_is) (hcd : codeIn K cdv qual = true := by k_is) (hroom : A.depth < recursionLimit := by ktr_room)
    (hbind : BindsTo s (fnOf name qual params body scope dV kV doc pm an cdv ct) vals binds₀ := by exact BindsTo.of_eq rfl) (hb₀ : binds₀ = binds := by first | exact (rfl : _ = [(_, _)]) | exact (rfl : _ = [(_, _), (_, _)])) (hm : (fun y => binds.reverse.lookup y) = m₁ := by first | exact look1 | exact look2) (hloc : ∀ y ∈ binds, scope.names.lookup y.1 = some .local := by exact locs rfl)
    (hsub : ∀ p ∈ args, p ∈ news := by assumption) (hret : Ret h₀ L m news s Q D := by assumption)
    (h : ∀ g L' h₁, EntP h₀ L m g s news args Q D → Fr g L' h₁ m₁ → News g L' h₁ args → Below A base (env :: outer) g → K.In g → Top p loose mean mg mb g → (∀ p ∈ args, p.1 < L') →
      wpAny (model prog w) (A.deeper (envOf qual scope L' f cdv)) (execs body (envOf qual scope L' f cdv))
        (fun fl s' => LeaveK h₀ L m g R (match fl with | .ret v => v | _ => .none) s')
        (fun e s' => wpAny (model prog w) (A.deeper (envOf qual scope L' f cdv)) (leaving (envOf qual scope L' f cdv) e) (fun _ s'' => R (.error e) s'') (fun e' s'' => R (.error e') s'') s')
        { s with heap := h₁, toks := s.toks + binds.length })
    (hcell : ∀ x ∈ scope.names, x.2 ≠ .cell := by decide) (hco : scope.isCoroutine = false := by rfl) (hgen : scope.isGenerator = false := by rfl) (hk : scope.kind = .function := by rfl) : codeAny (model prog w) A (.call (.ref f) vals) R s := by
  subst hm
  subst hb₀
  have Na : News h₀ L s.heap args := fun q hq => N q (hsub q hq)
  obtain ⟨_, BG, st, lv⟩ := groundX (R := R) B F Na hA hf hke
  have X := X₀.keeps F.keep
  refine codeAny_call_def (fd := fnOf name qual params body scope dV kV doc pm an cdv ct) (body := body) hroom (X _ _ ho) rfl (T.nolimit.keeps F.keep) (codeRec_of X hcd) rfl hbind hcell hloc (fun h₁ hns hk₁ => ?_) hco hgen hk
  exact wpAny_mono (h _ s.heap.objs.size h₁ ⟨fun b o e hb => hideAll_get _ e hb, N, hsub, hret⟩ ⟨hns, fun b o e => hk₁ b o (of_hideAll _ e), Nat.le_of_eq (hideAll_size _ _)⟩
    (fun q hq => ⟨hk₁ _ _ (Na q hq).1, Nat.ne_of_lt (Heap.lt_size (Na q hq).1), hideAll_none _ (List.mem_map_of_mem hq)⟩) BG (X₀.keeps st) (T.keeps st) (fun q hq => Heap.lt_size (Na q hq).1)) (fun fl s' hl => lv _ _ hl) fun _ _ y => y
end
theorem endP_flat {args led : Led} {D : Led → Value → Prop} {v : Value} (h : D [] v) : EndP args led D v := ⟨[], by simp, by simp, h⟩
theorem endP_one {args led : Led} {D : Led → Value → Prop} {v : Value} {q : Addr × Obj} (h1 : q ∈ led) (h2 : ∀ r ∈ args, @Ne Nat q.1 r.1) (h : D [q] v) : EndP args led D v :=
  ⟨[q], by simpa using h1, by simpa using h2, h⟩
theorem sub_one {l : Addr} {o : Obj} {news : Led} (h : (l, o) ∈ news) : ∀ p ∈ [(l, o)], p ∈ news := fun p hp => by rw [List.mem_singleton.mp hp]; exact h
section
variable {prog : Program} {w : World} {A : Around} {E : Value → Shared → Prop} {s : Shared} {h₀ : Heap} {L a b : Addr} {news : Led} {xs ys : List Value} {ka kb : Nat} {ds es : List Dat} {Q : Value → Shared → Prop} {r : Bool}
theorem eqL (N : News h₀ L s.heap news := by k_asm) (ma : (a, listOf xs.toArray ka) ∈ news := by k_mem) (Da : DatAll news xs ds := by kqd_all) (mb : (b, listOf ys.toArray kb) ∈ news := by k_mem) (Db : DatAll news ys es := by kqd_all)
    (ha : ∀ d ∈ ds, kqdOk 8 d = true := by kqd_ok) (hb : ∀ d ∈ es, kqdOk 8 d = true := by kqd_ok) (hu : A.units + 64 < cLine := by units_room) (hr : (ds = es) ↔ r = true := by walk_at "IFF") (h : Q (.bool r) s) : wpAny (model prog w) A (compareOp .Eq (.ref a) (.ref b)) Q E s := by
  classical
  refine kqd_eq N ma rfl rfl Da (fun _ h => h) mb rfl rfl Db (fun _ h => h) ha hb hu ?_
  by_cases e : ds = es
  · rw [decide_eq_true e, ← hr.mp e]; exact h
  · have : r = false := by cases q : r with
      | false => rfl
      | true => exact absurd (hr.mpr q) e
    rw [decide_eq_false e, ← this]; exact h
theorem neL (N : News h₀ L s.heap news := by k_asm) (ma : (a, listOf xs.toArray ka) ∈ news := by k_mem) (Da : DatAll news xs ds := by kqd_all) (mb : (b, listOf ys.toArray kb) ∈ news := by k_mem) (Db : DatAll news ys es := by kqd_all)
    (ha : ∀ d ∈ ds, kqdOk 8 d = true := by kqd_ok) (hb : ∀ d ∈ es, kqdOk 8 d = true := by kqd_ok) (hu : A.units + 64 < cLine := by units_room) (hr : (¬ ds = es) ↔ r = true := by walk_at "IFF") (h : Q (.bool r) s) : wpAny (model prog w) A (compareOp .NotEq (.ref a) (.ref b)) Q E s := by
  classical
  refine kqd_ne N ma rfl rfl Da (fun _ h => h) mb rfl rfl Db (fun _ h => h) ha hb hu ?_
  by_cases e : ds = es
  · have : r = false := by cases q : r with
      | false => rfl
      | true => exact absurd e (hr.mpr q)
    rw [decide_eq_true e]; show Q (.bool false) s; rw [← this]; exact h
  · rw [decide_eq_false e]; show Q (.bool true) s; rw [← hr.mp e]; exact h
theorem inL {x : Value} {d : Dat} (N : News h₀ L s.heap news := by k_asm) (ma : (a, listOf xs.toArray ka) ∈ news := by k_mem) (Da : DatAll news xs ds := by kqd_all) (Dx : DatIn news x d := by kqd_in)
    (ha : ∀ d ∈ ds, kqdOk 8 d = true := by kqd_ok) (hd : kqdOk 8 d = true := by first | rfl | exact okT (by assumption) | exact okP (by assumption) | kernel_rfl!) (hu : A.units + 64 < cLine := by units_room) (hr : d ∈ ds ↔ r = true := by walk_at "IFF") (h : Q (.bool r) s) : wpAny (model prog w) A (compareOp .In x (.ref a)) Q E s := by
  classical
  refine kqd_isIn N ma rfl rfl Da (fun _ h => h) Dx (fun _ h => h) ha hd hu ?_
  by_cases e : d ∈ ds
  · rw [decide_eq_true e, ← hr.mp e]; exact h
  · have : r = false := by cases q : r with
      | false => rfl
      | true => exact absurd (hr.mpr q) e
    rw [decide_eq_false e, ← this]; exact h
end
/-- a short text of plain signs -/
structure Tx (n : Nat) (x : Str) : Prop where
  len : x.length ≤ n
  ok : PyData.strOk x = true
theorem okT {n k : Nat} {x : Str} (h : Tx n x) : kqdOk k (.str x) = true := by cases k <;> exact h.ok
/-- a place: None, 7, or a text -/
inductive Pl where
  | no
  | seven
  | tx (a : Str)
noncomputable def Pl.dat : Pl → Dat
  | .no => .none
  | .seven => .int 7
  | .tx a => .str a
noncomputable def Pl.Ok : Pl → Prop
  | .tx a => Tx 1 a
  | _ => True
noncomputable def Pl.first : Pl → Dat
  | .no => .str (Str.ofString "C")
  | .seven => .int 7
  | .tx a => .str a
noncomputable def MSG : Str := Str.ofString "Locale must be None, a string, or an iterable of two strings -- language code, encoding."
noncomputable def dueOf : List Pl → Dat
  | [p, .no] => p.first
  | [.no, .tx b] => .str (Str.ofString "C" ++ Str.ofString "." ++ b)
  | [.tx a, .tx b] => .str (a ++ Str.ofString "." ++ b)
  | _ => .list [.str MSG]
theorem okP {k : Nat} : ∀ {p : Pl}, p.Ok → kqdOk k p.dat = true
  | .no, _ => by cases k <;> rfl
  | .seven, _ => by cases k <;> rfl
  | .tx a, h => okT h
/-- a value bears a place, whatever the ledger -/
noncomputable def FlIn (v : Value) (p : Pl) : Prop := ∀ led : Led, DatIn led v p.dat
theorem FlIn.at {v : Value} {p : Pl} {led : Led} (h : FlIn v p) : DatIn led v p.dat := h led
theorem flIn_of {v : Value} {p : Pl} {led : Led} (h : DatIn led v p.dat) : FlIn v p := by
  cases p <;> (simp only [Pl.dat] at h; cases h; intro led)
  · exact .none
  · exact .int _ _
  · exact .str _ _
section
variable {prog : Program} {w : World} {A : Around} {E : Value → Shared → Prop} {s : Shared} {h₀ : Heap} {L a b : Addr} {news : Led} {xs ys : List Value} {ka kb : Nat} {ds es : List Dat} {Q : Value → Shared → Prop} {r : Bool} {oa : Obj}
theorem memT {d : Dat} (ha : ∀ d ∈ ds, kqdOk 8 d = true) (hd : kqdOk 8 d = true) (hr : d ∈ ds ↔ r = true) : ((kqdPs ds).any fun y => PyData.eqv y (kqdP d)) = r := by
  have := kqd_any ds d ha hd
  cases r with
  | true => exact this.mpr (hr.mpr rfl)
  | false =>
    cases q : ((kqdPs ds).any fun y => PyData.eqv y (kqdP d)) with
    | false => rfl
    | true => exact absurd (hr.mp (this.mp q)) Bool.false_ne_true
theorem inT {x : Value} {d : Dat} (N : News h₀ L s.heap news := by k_asm) (ma : (a, oa) ∈ news := by k_mem) (ca : oa.cls = .type "tuple" := by exact rfl) (da : oa.data = .seq xs.toArray ka := by exact rfl) (Da : DatAll news xs ds := by kqd_all) (Dx : DatIn news x d := by kqd_in)
    (ha : ∀ d ∈ ds, kqdOk 8 d = true := by kqd_ok) (hd : kqdOk 8 d = true := by first | rfl | exact okT (by assumption) | exact okP (by assumption) | kernel_rfl!) (hu : A.units + 64 < cLine := by units_room) (hr : d ∈ ds ↔ r = true := by walk_at "IFF") (h : Q (.bool r) s) : wpAny (model prog w) A (compareOp .In x (.ref a)) Q E s := by
  obtain ⟨as, ra⟩ := kqd_all N 8 Da ha
  obtain ⟨bs, rx⟩ := kqd_in N 8 Dx hd
  have l := kqd_layL ha
  have ld := kqd_lay 8 d hd
  refine SeqAt.in_tuple_reads (reads_tuple_at (N.get ma) ca da (by simpa using ra)) rx l.1 ld.1 ?_ (by rw [memT ha hd hr]; exact h)
  have := Nat.min_le_right (PyData.depthAll (kqdPs ds)) (kqdP d).depth
  have := ld.2
  omega
theorem notInT {x : Value} {d : Dat} (N : News h₀ L s.heap news := by k_asm) (ma : (a, oa) ∈ news := by k_mem) (ca : oa.cls = .type "tuple" := by exact rfl) (da : oa.data = .seq xs.toArray ka := by exact rfl) (Da : DatAll news xs ds := by kqd_all) (Dx : DatIn news x d := by kqd_in)
    (ha : ∀ d ∈ ds, kqdOk 8 d = true := by kqd_ok) (hd : kqdOk 8 d = true := by first | rfl | exact okT (by assumption) | exact okP (by assumption) | kernel_rfl!) (hu : A.units + 64 < cLine := by units_room) (hr : d ∈ ds ↔ r = true := by walk_at "IFF") (h : Q (.bool (!r)) s) : wpAny (model prog w) A (compareOp .NotIn x (.ref a)) Q E s := by
  obtain ⟨as, ra⟩ := kqd_all N 8 Da ha
  obtain ⟨bs, rx⟩ := kqd_in N 8 Dx hd
  have l := kqd_layL ha
  have ld := kqd_lay 8 d hd
  refine SeqAt.notIn_tuple_reads (reads_tuple_at (N.get ma) ca da (by simpa using ra)) rx l.1 ld.1 ?_ (by rw [memT ha hd hr]; exact h)
  have := Nat.min_le_right (PyData.depthAll (kqdPs ds)) (kqdP d).depth
  have := ld.2
  omega
end
noncomputable def EM : Str := Str.ofString ""
noncomputable def Pl.isSeven : Pl → Bool
  | .seven => true
  | _ => false
noncomputable def Pl.isSign : Pl → Bool
  | .tx a => !decide (a = EM)
  | _ => false
noncomputable def signsOf : List Pl → List Pl
  | [p, q] => if p.isSeven || q.isSeven then [] else [p, q].filter Pl.isSign
  | _ => []
noncomputable def FlAll (vs : List Value) (ps : List Pl) : Prop := ∀ led : Led, DatAll led vs (ps.map Pl.dat)
theorem flAll_nil : FlAll [] [] := fun _ => .nil
theorem flAll_cons {v : Value} {vs : List Value} {p : Pl} {ps : List Pl} (h : FlIn v p) (hs : FlAll vs ps) : FlAll (v :: vs) (p :: ps) := fun led => .cons (h led) (hs led)
theorem flIn_str (a : Str) (t : Tok) : FlIn (.str a t) (.tx a) := fun _ => .str _ _
/-- a def hands on one new list of places -/
inductive OutL (ps : List Pl) (new : Led) (v : Value) : Prop
  | mk (r) (k) (vs) (_ : new = [(r, listOf (List.toArray vs) k)]) (_ : v = .ref r) (_ : FlAll vs ps) : OutL ps new v
theorem endP_list {args led : Led} {ps : List Pl} {r : Addr} {o : Obj} {vs : List Value} (k : Nat) (h1 : (r, o) ∈ led) (ho : o = listOf vs.toArray k) (h2 : ∀ q ∈ args, @Ne Nat r q.1) (h : FlAll vs ps) : EndP args led (OutL ps) (.ref r) :=
  endP_one (q := (r, o)) h1 h2 ⟨r, k, vs, by rw [ho], rfl, h⟩
section
variable {prog : Program} {w : World} {A₀ A : Around} {s : Shared} {base h₀ : Heap} {outer : List Env} {L : Addr} {m : Str → Option Value} {env : Env} {news args : Led} {K : Frag} {p : Program} {loose : List Str} {mean : ExcName → Option Value} {mg mb : Str → Option Value}
  {R : Result → Shared → Prop} {name qual : Str} {params : Arguments} {body : List Stmt} {scope : Scope} {dV kV doc pm cdv ct oc : Value} {an od : Option Addr} {osl : Array (Option Value)} {f : Addr} {vals : Args} {binds : List (Str × Value)}
  {Q : Value → Shared → Prop} {D : Led → Value → Prop}
/-- enterP for a def with cells -/
theorem enterPC {m₁ : Str → Option Value} {binds₀ : List (Str × Value)} (B : Below A₀ base outer h₀ := by k_asm) (F : Fr h₀ L s.heap m := by k_asm) (X₀ : K.In h₀ := by k_asm) (N : News h₀ L s.heap news := by k_asm) (T : Top p loose mean mg mb h₀ := by k_asm) (hA : A.frames = some (env :: outer) := by exact rfl) (hf : env.frame = some L := by exact rfl) (hke : env.scope.kind = .function := by assumption)
    (ho : K.lookup f = some ⟨oc, od, .func (fnOf name qual params body scope dV kV doc pm an cdv ct), osl⟩ := by k_is) (hcd : codeIn K cdv qual = true := by k_is) (hroom : A.depth < recursionLimit := by ktr_room)
    (hbind : BindsTo s (fnOf name qual params body scope dV kV doc pm an cdv ct) vals binds₀ := by exact BindsTo.of_eq rfl) (hb₀ : binds₀ = binds := by exact (rfl : _ = [(_, _)])) (hm : ∀ L', bindL (envOfC qual scope L' f cdv).kindOf binds (fun _ => none) = m₁ := by exact fun _ => bind1 rfl) (hkind : (binds.all fun y => scope.names.lookup y.1 == some .local || scope.names.lookup y.1 == some .cell) = true := by exact rfl)
    (hnd : ((cellsFrom 0 scope.names []).map (·.1)).Nodup := by decide +kernel)
    (hsub : ∀ p ∈ args, p ∈ news := by assumption) (hret : Ret h₀ L m news s Q D := by assumption)
    (h : ∀ g L' h₁ tk cells, EntP h₀ L m g s news args Q D → Fr g L' h₁ m₁ → News g L' h₁ (cells ++ args) →
      CellsAre (bindC (envOfC qual scope L' f cdv).kindOf binds fun _ => none) (cellsFrom (L' + 1) scope.names []) cells → Below A base (env :: outer) g → K.In g → Top p loose mean mg mb g → (∀ p ∈ args, p.1 < L') →
      wpAny (model prog w) (A.deeper (envOfC qual scope L' f cdv)) (execs body (envOfC qual scope L' f cdv))
        (fun fl s' => LeaveK h₀ L m g R (match fl with | .ret v => v | _ => .none) s')
        (fun e s' => wpAny (model prog w) (A.deeper (envOfC qual scope L' f cdv)) (leaving (envOfC qual scope L' f cdv) e) (fun _ s'' => R (.error e) s'') (fun e' s'' => R (.error e') s'') s')
        { s with heap := h₁, toks := tk })
    (hco : scope.isCoroutine = false := by rfl) (hgen : scope.isGenerator = false := by rfl) (hk : scope.kind = .function := by rfl) : codeAny (model prog w) A (.call (.ref f) vals) R s := by
  subst hb₀
  have Na : News h₀ L s.heap args := fun q hq => N q (hsub q hq)
  obtain ⟨_, BG, st, lv⟩ := groundX (R := R) B F Na hA hf hke
  have X := X₀.keeps F.keep
  refine codeAny_call_function hroom (X _ _ ho) rfl hco hgen rfl (codeRec_of X hcd) (hbind _ _ _ _ ?_)
  refine wpAny_newFunctionEnv_cells hk (kindsX hkind _) fun env' he s' x => ?_
  subst he
  refine ⟨(T.nolimit.keeps F.keep).keeps x.toInCall.keep, codeAny_func ?_⟩
  obtain ⟨h₁, tk, rfl, _⟩ := x.done
  have hk₁ := x.toInCall.keep
  obtain ⟨cells, NC, Y⟩ := Cl.news (h₀ := s.heap) (Nat.le_refl _) fun n c hm => ⟨x.cell n c (lookup_of_mem_nodup (cellsFrom_names scope.names 0 (s.heap.objs.size + 1) [] [] rfl ▸ hnd) hm), x.above n c hm⟩
  refine wpAny_mono (h _ s.heap.objs.size h₁ tk cells ⟨fun b o e hb => hideAll_get _ e hb, N, hsub, hret⟩ ⟨hm s.heap.objs.size ▸ x.toInCall.ns, fun b o e => hk₁ b o (of_hideAll _ e), Nat.le_of_eq (hideAll_size _ _)⟩ (fun q hq => ?_) Y BG (X₀.keeps st) (T.keeps st) (fun q hq => Heap.lt_size (Na q hq).1)) (fun fl s' hl => lv _ _ hl) fun _ _ y => y
  rcases List.mem_append.mp hq with hq | hq
  · refine ⟨(NC q hq).1, (NC q hq).2.1, ?_⟩
    cases e : (hideAll s.heap (args.map (·.1))).get? q.1 with
    | none => rfl
    | some o => have := of_hideAll _ e; rw [(NC q hq).2.2] at this; cases this
  · exact ⟨hk₁ _ _ (Na q hq).1, Nat.ne_of_lt (Heap.lt_size (Na q hq).1), hideAll_none _ (List.mem_map_of_mem hq)⟩
end
/-- the sign at a place of the law's own row of signs -/
noncomputable def sgn (k : Int) : Str := Txt.item (Str.ofString "aAbBdD") k
noncomputable def plOf (k : Int) : Pl := if k = 6 then .no else .tx (sgn k)
theorem cutV {prog : Program} {w : World} {A : Around} {E : Value → Shared → Prop} {s : Shared} {Q : Value → Shared → Prop} {m₂ : Str → Option Value} {y : Str} {k : Int} {t : Tok} {c : Sem Value} (hx : m₂ y = some (.int k t))
    (h1 : ∀ (g : Array GenState) (d : Drawn) (tk₀ : Nat) (os : OsState), wpAny (model prog w) A c (fun v s' => (∃ tk, s' = ⟨s.heap, g, d, tk, os⟩) ∧ FlIn v (plOf k)) (fun _ _ => False) ⟨s.heap, g, d, tk₀, os⟩) (h2 : ∀ v tk, FlIn v (plOf k) → Q v { s with toks := tk }) : wpAny (model prog w) A c Q E s :=
  wpAny_mono (h1 s.gens s.drawn s.toks s.os) (fun v s' h => by obtain ⟨⟨tk, rfl⟩, hf⟩ := h; exact h2 v tk hf) fun _ _ h => h.elim
noncomputable def placesOf (x : Int) : List Pl :=
  let p := plOf (x.fmod 7)
  let q := plOf ((x.fdiv 7).fmod 7)
  let k := (x.fdiv 49).fmod 24
  if k < 2 then (if k = 0 then [.seven, q] else [p, .seven])
  else if k < 4 then (if k = 2 then [.tx EM, q] else [p, .tx EM])
  else if k = 4 then [p] else if k = 5 then [p, q, .tx (sgn ((x.fdiv 1176).fmod 6))] else [p, q]
theorem setItem_lit {prog : Program} {w : World} {A : Around} {E : Value → Shared → Prop} {s : Shared} {Q : Unit → Shared → Prop} {l v : Value} {k : Int} (j : Int) {t : Tok} (h : k = j) (x : wpAny (model prog w) A (setItem l (.int j t) v) Q E s) :
    wpAny (model prog w) A (setItem l (.int k t) v) Q E s := by subst h; exact x
theorem sgn_len (k : Int) : (sgn k).length = 1 := rfl
theorem mod2_01 (k : Int) : k.fmod 2 = 0 ∨ k.fmod 2 = 1 := by
  rw [Int.fmod_eq_emod_of_nonneg _ (by decide)]; omega
theorem setItem_two {prog : Program} {w : World} {A : Around} {E : Value → Shared → Prop} {s : Shared} {Q : Unit → Shared → Prop} {l v : Value} {k : Int} {t : Tok} (h : k = 0 ∨ k = 1) (h0 : k = 0 → wpAny (model prog w) A (setItem l (.int 0 t) v) Q E s)
    (h1 : k = 1 → wpAny (model prog w) A (setItem l (.int 1 t) v) Q E s) : wpAny (model prog w) A (setItem l (.int k t) v) Q E s := by
  rcases h with rfl | rfl
  · exact h0 rfl
  · exact h1 rfl
theorem fm_range (k : Int) (n : Int) (hn : 0 < n) : 0 ≤ k.fmod n ∧ k.fmod n < n := by
  rw [Int.fmod_eq_emod_of_nonneg _ (by omega)]
  exact ⟨Int.emod_nonneg _ (by omega), Int.emod_lt_of_pos _ hn⟩
section
variable {x : Int}
theorem pl_0 (h1 : (x.fdiv 49).fmod 24 < 2) (h2 : ((x.fdiv 49).fmod 24).fmod 2 = 0) : placesOf x = [.seven, plOf ((x.fdiv 7).fmod 7)] := by
  have := fm_range (x.fdiv 49) 24 (by decide)
  rw [Int.fmod_eq_emod_of_nonneg _ (by decide)] at h2
  have h : (x.fdiv 49).fmod 24 = 0 := by omega
  simp [placesOf, h]
theorem pl_1 (h1 : (x.fdiv 49).fmod 24 < 2) (h2 : ((x.fdiv 49).fmod 24).fmod 2 = 1) : placesOf x = [plOf (x.fmod 7), .seven] := by
  have := fm_range (x.fdiv 49) 24 (by decide)
  rw [Int.fmod_eq_emod_of_nonneg _ (by decide)] at h2
  have h : (x.fdiv 49).fmod 24 = 1 := by omega
  simp [placesOf, h]
theorem pl_2 (h0 : (x.fdiv 49).fmod 24 < 4) (h1 : ¬ (x.fdiv 49).fmod 24 < 2) (h2 : ((x.fdiv 49).fmod 24).fmod 2 = 0) : placesOf x = [.tx EM, plOf ((x.fdiv 7).fmod 7)] := by
  rw [Int.fmod_eq_emod_of_nonneg _ (by decide)] at h2
  have h : (x.fdiv 49).fmod 24 = 2 := by omega
  simp [placesOf, h]
theorem pl_3 (h0 : (x.fdiv 49).fmod 24 < 4) (h1 : ¬ (x.fdiv 49).fmod 24 < 2) (h2 : ((x.fdiv 49).fmod 24).fmod 2 = 1) : placesOf x = [plOf (x.fmod 7), .tx EM] := by
  rw [Int.fmod_eq_emod_of_nonneg _ (by decide)] at h2
  have h : (x.fdiv 49).fmod 24 = 3 := by omega
  simp [placesOf, h]
theorem pl_4 (h0 : (x.fdiv 49).fmod 24 = 4) : placesOf x = [plOf (x.fmod 7)] := by simp [placesOf, h0]
theorem pl_5 (h0 : (x.fdiv 49).fmod 24 = 5) : placesOf x = [plOf (x.fmod 7), plOf ((x.fdiv 7).fmod 7), .tx (sgn ((x.fdiv 1176).fmod 6))] := by simp [placesOf, h0]
theorem pl_6 (h0 : ¬ (x.fdiv 49).fmod 24 < 4) (h1 : (x.fdiv 49).fmod 24 ≠ 4) (h2 : (x.fdiv 49).fmod 24 ≠ 5) : placesOf x = [plOf (x.fmod 7), plOf ((x.fdiv 7).fmod 7)] := by
  have h3 : ¬ (x.fdiv 49).fmod 24 < 2 := by omega
  simp [placesOf, h0, h1, h2, h3]
end
theorem flIn_seven (t : Tok) : FlIn (.int 7 t) .seven := fun _ => .int _ _
theorem flIn_no {k : Int} (h : k = 6) : FlIn .none (plOf k) := by rw [plOf, if_pos h]; exact fun _ => .none
theorem flIn_sg {k : Int} {t : Tok} (h : k ≠ 6) : FlIn (.str (Txt.item (Str.ofString "aAbBdD") k) t) (plOf k) := by rw [plOf, if_neg h]; exact fun _ => .str _ _
theorem list1 {α : Type} {l : List α} (h : l.length = 1) : ∃ a, l = [a] := List.length_eq_one_iff.mp h
theorem list2 {α : Type} {l : List α} (h : l.length = 2) : ∃ a b, l = [a, b] := by
  match l, h with
  | [a, b], _ => exact ⟨a, b, rfl⟩
theorem list3 {α : Type} {l : List α} (h : l.length = 3) : ∃ a b c, l = [a, b, c] := by
  match l, h with
  | [a, b, c], _ => exact ⟨a, b, c, rfl⟩
/-- what is to come as letters -/
theorem wp_let {α : Type} {M : Model} {A : Around} {c : Sem α} {Q : α → Shared → Prop} {E : Value → Shared → Prop} {s : Shared} (h : let qk := Q; let ek := E; wpAny M A c qk ek s) : wpAny M A c Q E s := h
/-- the goal as one letter, while facts are opened (a small motive) -/
theorem foldP {P : Prop} (h : ∀ G : Prop, (P → G) → G) : P := h P id
/-- a goal that the walk leaves alone -/
noncomputable def Hold (P : Prop) : Prop := P
theorem hold_in {P : Prop} (h : Hold P) : P := h
theorem Hold.out {P : Prop} (h : P) : Hold P := h

local macro_rules | `(tactic| walk_at "N13") => `(tactic| first | exact .inl rfl | exact .inr rfl | (simp only [List.size_toArray]; assumption))
local macro_rules | `(tactic| walk_at "FOLD") => `(tactic| ((fail_if_success (fail_if_success k_fold)); refine wp_let ?_; intro qk ek))
local macro_rules | `(tactic| walk_at "LeaveK") => `(tactic| (k_dflt (refine leaveP (e := ?_))))
local macro_rules | `(tactic| units_room) => `(tactic| ((try dsimp only [ktS, ktT, ktrTop]); (simp only [Around.deeper_units, Around.in1_units, Around.mark_units, units_in1, units_deeper, cLine_is]); omega))
local macro_rules | `(tactic| ktr_room) => `(tactic| ((try dsimp only [ktS, ktT, ktrTop]); (simp only [depth_in1, depth_deeper, recursionLimit]); omega))
local macro_rules | `(tactic| walk_at "ENTER") => `(tactic| (refine wpAny_call ?_; k_dflt (refine enterP (h := ?_); k_whole; intro g' L' h' P' F' N' B' X' T' l1; (try dsimp only at F'); (try dsimp only); (try k_lift B'); (try walk_at "FOLD"); (try k_lt l1))))
local macro_rules | `(tactic| walk_at "IFF") => `(tactic| first
  | (refine iff_of_true ?_ rfl; first | rfl | (simp; done) | fail "IFF")
  | (refine iff_of_false (b := _ = true) ?_ Bool.false_ne_true; first | (simp; done) | (simp [*]; done) | (intro h; cases h; done) | fail "IFF"))
local macro_rules | `(tactic| kqd_ok) => `(tactic| first | exact List.forall_mem_nil _ | (refine List.forall_mem_cons.mpr (And.intro (by first | rfl | exact okT (by assumption) | exact okP (by assumption) | kernel_rfl!) ?_); kqd_ok))
local macro_rules | `(tactic| walk_at "compareOp Eq ref ref") => `(tactic| (k_here; (with_reducible show wpAny _ _ (compareOp CmpOp.Eq (Value.ref _) (Value.ref _)) _ _ _); k_dflt (refine eqL (h := ?_); k_whole)))
local macro_rules | `(tactic| walk_at "compareOp NotEq ref ref") => `(tactic| (k_here; (with_reducible show wpAny _ _ (compareOp CmpOp.NotEq (Value.ref _) (Value.ref _)) _ _ _); k_dflt (refine neL (h := ?_); k_whole)))
local macro_rules | `(tactic| walk_at "compareOp In") => `(tactic| (k_here; (with_reducible show wpAny _ _ (compareOp CmpOp.In _ (Value.ref _)) _ _ _); k_dflt (refine inL (h := ?_); k_whole)))
local macro_rules | `(tactic| kqd_in) => `(tactic| exact FlIn.at (by assumption))
local macro_rules | `(tactic| walk_at "BODY") => `(tactic| (intro loose mean mg mb kt A₀ base h₀ m hp g0 d0 t0 o0 Q E B F X N T hk hdp hun hret; w_on; walk_at "ENTER"; clear B F X N T hret; k_steps))
local macro_rules | `(tactic| walk_at "OPEN") => `(tactic| ((simp only [FlIn, Pl.dat] at *); skip))
local macro_rules | `(tactic| walk_at "OFF") => `(tactic| k_all)
local macro_rules | `(tactic| walk_at "ENDMSG") => `(tactic| (refine endP_one (List.mem_cons_self ..) ?_ (DatIn.list (List.mem_cons_self ..) (.cons (.str _ _) .nil)); walk_at "OFF"))
local macro_rules | `(tactic| k_room) => `(tactic| ((try dsimp only [ktS, ktT, ktrTop]); (simp only [depth_in1, depth_deeper, recursionLimit]); omega))
local macro_rules | `(tactic| walk_at "compareOp In") => `(tactic| (k_here; (with_reducible show wpAny _ _ (compareOp CmpOp.In _ (Value.ref _)) _ _ _); k_dflt (refine inT (h := ?_); k_whole)))
local macro_rules | `(tactic| walk_at "compareOp NotIn") => `(tactic| (k_here; (with_reducible show wpAny _ _ (compareOp CmpOp.NotIn _ (Value.ref _)) _ _ _); k_dflt (refine notInT (h := ?_); k_whole); (try simp only [Bool.not_true, Bool.not_false])))
local macro_rules | `(tactic| walk_at "ENTERC") => `(tactic| (refine wpAny_call ?_; k_dflt (refine enterPC (h := ?_); k_whole; intro g' L' h' tk' cells' P' F' N' Y' B' X' T' l1; (try dsimp only at F'); (try k_lt l1); k_cells Y'; (try simp only [List.cons_append, List.nil_append] at N'); (try dsimp only); (try k_lift B'); (try walk_at "FOLD"))))
local macro_rules | `(tactic| walk_at "BODYC") => `(tactic| (intro loose mean mg mb kt A₀ base h₀ m hp g0 d0 t0 o0 Q E B F X N T hk hdp hun hret; w_on; walk_at "ENTERC"; clear B F X N T hret; k_steps))
local macro_rules | `(tactic| walk_at "DROP") => `(tactic| ((repeat (rename Fr _ _ _ _ => zF; clear zF)); (repeat (rename News _ _ _ _ => zN; clear zN)); (repeat (rename IsRange _ _ _ _ _ _ _ _ => zR; clear zR))))
local macro_rules | `(tactic| k_all) => `(tactic| first | assumption | (refine List.forall_mem_cons.mpr (And.intro ?ka1 ?ka2); (case ka1 => k_ne); (case ka2 => k_all)) | fail "k_all tail")
local macro_rules | `(tactic| walk_at "execs cons") => `(tactic| (k_here; (fail_if_success k_gentoks); (fail_if_success k_made); (with_reducible refine wpAny_execs_cons ?_); (try dsimp only); walk_at "FOLD"))
local macro_rules | `(tactic| walk_at "execs cons") => `(tactic| (k_here; walk_at "FOLD"))

/-- an expression that hands on a place's datum, however it came by it -/
theorem cutD {prog : Program} {w : World} {A : Around} {E : Value → Shared → Prop} {s : Shared} {Q : Value → Shared → Prop} {c : Sem Value} (d : Dat)
    (h1 : ∀ (g : Array GenState) (dr : Drawn) (tk₀ : Nat) (os : OsState), wpAny (model prog w) A c (fun v s' => (∃ tk, s' = ⟨s.heap, g, dr, tk, os⟩) ∧ DatIn [] v d) (fun _ _ => False) ⟨s.heap, g, dr, tk₀, os⟩) (h2 : ∀ v tk, DatIn [] v d → Q v { s with toks := tk }) : wpAny (model prog w) A c Q E s :=
  wpAny_mono (h1 s.gens s.drawn s.toks s.os) (fun v s' h => by obtain ⟨⟨tk, rfl⟩, hf⟩ := h; exact h2 v tk hf) fun _ _ h => h.elim
noncomputable def Pl.isNo : Pl → Bool
  | .no => true
  | _ => false
theorem no_iff : ∀ {q : Pl}, ([q.dat] = [Dat.none]) ↔ q.isNo = true
  | .no => ⟨fun _ => rfl, fun _ => rfl⟩
  | .seven => ⟨fun e => (nomatch e), fun e => (nomatch e)⟩
  | .tx _ => ⟨fun e => (nomatch e), fun e => (nomatch e)⟩
theorem seven_dat : ∀ {q : Pl}, Dat.int 7 = q.dat ↔ q.isSeven = true
  | .no => ⟨fun e => (nomatch e), fun e => (nomatch e)⟩
  | .seven => ⟨fun _ => rfl, fun _ => rfl⟩
  | .tx _ => ⟨fun e => (nomatch e), fun e => (nomatch e)⟩
theorem seven_iff {p q : Pl} : Dat.int 7 ∈ [p.dat, q.dat] ↔ (p.isSeven || q.isSeven) = true := by
  rw [List.mem_cons, List.mem_singleton, Bool.or_eq_true, seven_dat, seven_dat]
theorem due_no : ∀ {p q : Pl}, q.isNo = true → dueOf [p, q] = p.first
  | .no, .no, _ | .seven, .no, _ | .tx _, .no, _ => rfl
theorem due_seven : ∀ {p q : Pl}, q.isNo = false → (p.isSeven || q.isSeven) = true → dueOf [p, q] = .list [.str MSG]
  | .seven, .seven, _, _ | .seven, .tx _, _, _ | .no, .seven, _, _ | .tx _, .seven, _, _ => rfl
theorem due_tx : ∀ {p q : Pl}, p.Ok → q.Ok → q.isNo = false → (p.isSeven || q.isSeven) = false → ∃ x b, p.first = .str x ∧ q = .tx b ∧ dueOf [p, q] = .str (x ++ Str.ofString "." ++ b) ∧ x.length ≤ 1 ∧ b.length ≤ 1
  | .no, .tx b, _, h, _, _ => ⟨_, b, rfl, rfl, rfl, Nat.le_refl 1, h.len⟩
  | .tx a, .tx b, h, h', _, _ => ⟨a, b, rfl, rfl, rfl, h.len, h'.len⟩
section
local macro_rules | `(tactic| walk_at "IFF") => `(tactic| first | exact no_iff | exact seven_iff)
local macro_rules | `(tactic| walk_at "eval IfExp") => `(tactic| (k_here; (fail_if_success (with_reducible show wpAny _ _ _ _ (fun _ _ => False) _)); refine hold_in ?_))
theorem c_due1 (w : World) (news : Led) (l n : Nat) (v : Value) (p : Pl) (hp : p.Ok) (hv : FlIn v p) (hl : (l, listOf [v].toArray n) ∈ news) :
   Con w 66 news [.ref l] 1 (fun new v => DatIn new v (.list [.str MSG])) := by
  have hs := sub_one hl
  clear hl
  walk_at "BODY"
  refine Hold.out ?_
  refine cutD p.first (fun g dr tk os => ?_) (fun f tk hf => ?_)
  · have hv' := hv []
    cases p <;> (first | obtain rfl := dat_none hv' | obtain ⟨t, rfl⟩ := dat_int hv' | obtain ⟨t, rfl⟩ := dat_str hv') <;> clear hv hv'
    all_goals k_steps
    all_goals first | exact .str _ _ | exact .int _ _
  · k_steps
    walk_at "ENDMSG"
theorem c_due3 (w : World) (news : Led) (l n : Nat) (v v2 v3 : Value) (p q r : Pl) (hp : p.Ok) (hq : q.Ok) (hr : r.Ok) (hv : FlIn v p) (hv2 : FlIn v2 q) (hv3 : FlIn v3 r) (hl : (l, listOf [v, v2, v3].toArray n) ∈ news) :
   Con w 66 news [.ref l] 1 (fun new v => DatIn new v (.list [.str MSG])) := by
  have hs := sub_one hl
  clear hl
  walk_at "BODY"
  refine Hold.out ?_
  refine cutD p.first (fun g dr tk os => ?_) (fun f tk hf => ?_)
  · have hv' := hv []
    cases p <;> (first | obtain rfl := dat_none hv' | obtain ⟨t, rfl⟩ := dat_int hv' | obtain ⟨t, rfl⟩ := dat_str hv') <;> clear hv hv'
    all_goals k_steps
    all_goals first | exact .str _ _ | exact .int _ _
  · k_steps
    walk_at "ENDMSG"
theorem c_due2 (w : World) (news : Led) (l n : Nat) (v v2 : Value) (p q : Pl) (hp : p.Ok) (hq : q.Ok) (hv : FlIn v p) (hv2 : FlIn v2 q) (hl : (l, listOf [v, v2].toArray n) ∈ news) :
   Con w 66 news [.ref l] 1 (fun new v => DatIn new v (dueOf [p, q])) := by
  have hs := sub_one hl
  clear hl
  walk_at "BODY"
  refine Hold.out ?_
  refine cutD p.first (fun g dr tk os => ?_) (fun f tk hf => ?_)
  · have hv' := hv []
    cases p <;> (first | obtain rfl := dat_none hv' | obtain ⟨t, rfl⟩ := dat_int hv' | obtain ⟨t, rfl⟩ := dat_str hv') <;> clear hv hv'
    all_goals k_steps
    all_goals first | exact .str _ _ | exact .int _ _
  · k_steps
    · rename q.isNo = true => h1
      exact endP_flat (due_no h1 ▸ hf)
    · rename q.isNo = false => h1
      rename (p.isSeven || q.isSeven) = true => h2
      rw [due_seven h1 h2]
      walk_at "ENDMSG"
    · rename q.isNo = false => h1
      rename (p.isSeven || q.isSeven) = false => h2
      obtain ⟨x, b, e1, rfl, e3, hp1, hq1⟩ := due_tx hp hq h1 h2
      rw [e1] at hf
      obtain ⟨t1, rfl⟩ := dat_str hf
      obtain ⟨t2, rfl⟩ := dat_str (hv2 [])
      clear hv2 hv
      k_steps
      rw [e3]
      exact endP_flat (.str _ _)
end

section
variable {prog : Program} {w : World} {A : Around} {E : Value → Shared → Prop} {s : Shared}
theorem w_draw {I : Addr} {fp : List Addr} {n : Nat} {P : Nat → Value → Prop} {St : Nat → Heap → Prop} (W : Walks prog w A I fp [I] n P St) : ∀ (k i : Nat) (s : Shared) (Q : List Value → Shared → Prop), St i s.heap → i ≤ n →
    (∀ vs h' tk, vs.length = min k (n - i) → (∀ j v, vs[j]? = some v → P (i + j) v) → (vs.length = k → St (i + k) h') → (∀ b o, b ≠ I → s.heap.get? b = some o → h'.get? b = some o) → Q vs { s with heap := h', toks := tk }) →
    wpAny (model prog w) A (draw (.ref I) k) Q E s
  | 0, i, s, Q, st, hi, hQ => wpAny_pure (hQ [] s.heap s.toks (by simp) (by intro j v h; simp at h) (fun _ => st) fun _ _ _ e => e)
  | k + 1, i, s, Q, st, hi, hQ => by
    show wpAny _ _ (pyNext (.ref I) >>= _) Q E s
    by_cases hlt : i < n
    · refine wpAny_bind (W.item i s _ _ hlt st fun v h₁ tk₁ hv st₁ hk₁ => ?_)
      refine wpAny_bind (wpAny_holding (w_draw W k (i + 1) _ _ st₁ hlt fun vs h₂ tk₂ hl hp hst hk₂ => wpAny_pure ?_))
      refine hQ (v :: vs) h₂ tk₂ ?_ ?_ ?_ ?_
      · rw [List.length_cons, hl]; omega
      · intro j x hj
        cases j with
        | zero => simp at hj; subst hj; exact hv
        | succ j => have := hp j x (by simpa using hj); rw [show i + (j + 1) = i + 1 + j by omega]; exact this
      · intro h; rw [List.length_cons] at h; have := hst (by omega); rw [show i + (k + 1) = i + 1 + k by omega]; exact this
      · intro b o hb e; exact hk₂ b o hb (hk₁ b o (by simpa using hb) e)
    · have : i = n := by omega
      subst this
      refine wpAny_bind (W.done s _ _ st fun h₁ tk₁ hk₁ => wpAny_pure ?_)
      refine hQ [] h₁ tk₁ ?_ ?_ ?_ ?_
      · simp
      · intro j v h; simp at h
      · intro h; simp at h
      · intro b o hb e; exact hk₁ b o (by simpa using hb) e
theorem typeOf_str (x : Str) (t : Tok) : typeOf (.str x t) = pure (.type "str") := rfl
/-- two targets, one item or three: a ValueError -/
theorem unp_bad {I : Addr} {fp : List Addr} {n : Nat} {P : Nat → Value → Prop} {St : Nat → Heap → Prop} {v : Value} {o : Obj} {Q : List Value → Shared → Prop}
    (hni : ∀ (R : Bool → Shared → Prop), R false s → wpAny (model prog w) A (notIterableAtAll v) R E s)
    (hit : ∀ (R : Value → Shared → Prop), R (.ref s.heap.objs.size) { s with heap := s.heap.push o } → wpAny (model prog w) A (pyIter v) R E s)
    (hI : I = s.heap.objs.size) (hh : A.handled = none)
    (W : Walks prog w A I fp [I] n P St) (st : St 0 (s.heap.push o)) (hn : n = 1 ∨ n = 3)
    (hE : ∀ h' tk e, Heap.NewExc s.heap h' e "ValueError" → E (.ref e) { s with heap := h', toks := tk }) : wpAny (model prog w) A (unpackItems v 2 none) Q E s := by
  subst hI
  have key : ∀ (h₁ h' : Heap) e, (∀ b o', b ≠ s.heap.objs.size → (s.heap.push o).get? b = some o' → h₁.get? b = some o') → Heap.NewExc h₁ h' e "ValueError" → Heap.NewExc s.heap h' e "ValueError" := by
    intro h₁ h' e hk x
    have up : ∀ b o', s.heap.get? b = some o' → h₁.get? b = some o' := fun b o' q => hk b o' (Nat.ne_of_lt (Heap.lt_size q)) (Heap.get?_push_of_some _ q)
    refine ⟨fun b o' q => x.keeps b o' (up b o' q), ?_, x.there⟩
    cases q : s.heap.get? e with
    | none => rfl
    | some o' => have := up _ _ q; rw [x.new] at this; cases this
  unfold unpackItems
  refine wpAny_bind (hni _ ?_)
  simp only [Bool.false_eq_true, if_false]
  refine wpAny_bind (wpAny_holding (hit _ ?_))
  (try dsimp only)
  refine wpAny_bind (wpAny_holding (w_draw W 2 0 _ _ st (Nat.zero_le _) fun vs h₁ tk₁ hl hp hst hk => ?_))
  rcases hn with rfl | rfl
  · have h1 : vs.length = 1 := by simpa using hl
    simp only [h1]
    rw [if_pos (by decide)]
    refine wpAny_bind (wpAny_rule (wpAny_bind ?_))
    exact raiseError_exc excClass_ValueError hh (fun h' tk e x => hE h' tk e (key _ _ _ hk x)) (by decide +kernel)
  · have h2 : vs.length = 2 := by simpa using hl
    rw [h2]
    rw [if_neg (by decide)]
    refine wpAny_bind (wpAny_holding (W.item 2 _ _ _ (by decide) (hst h2) fun v h₂ tk₂ _ _ hk₂ => ?_))
    simp only [Option.isSome_some, if_true]
    refine wpAny_bind (wpAny_rule (wpAny_bind ?_))
    refine raiseError_exc excClass_ValueError hh (fun h' tk e x => hE h' tk e (key h₂ _ _ (fun b o' hb q => hk₂ b o' (by simpa using hb) (hk b o' hb q)) x)) (by decide +kernel)
theorem unp_bad_list {l : Addr} {items : Array Value} {Q : List Value → Shared → Prop} (hl : s.heap.IsList l items) (hh : A.handled = none) (hn : items.size = 1 ∨ items.size = 3)
    (hE : ∀ h' tk e, Heap.NewExc s.heap h' e "ValueError" → E (.ref e) { s with heap := h', toks := tk }) : wpAny (model prog w) A (unpackItems (.ref l) 2 none) Q E s := by
  have hne : l ≠ s.heap.objs.size := by obtain ⟨o, ho, _⟩ := hl; exact Nat.ne_of_lt (Heap.lt_size ho)
  refine unp_bad (fun R h => ?_) (fun R h => wpAny_pyIter_list hl h) rfl hh (Walks.list hh _ l hne items) ⟨⟨_, Heap.get?_push_size _ rfl, rfl, rfl⟩, hl.push _⟩ hn hE
  unfold notIterableAtAll
  refine wpAny_bind (wpAny_specialOf hl.typeIs slot_list_iter.lookup ?_)
  exact wpAny_pure h
theorem unp_bad_tuple {t : Addr} {items : Array Value} {Q : List Value → Shared → Prop} (hl : IsTup s.heap t items) (hh : A.handled = none) (hn : items.size = 1 ∨ items.size = 3)
    (hE : ∀ h' tk e, Heap.NewExc s.heap h' e "ValueError" → E (.ref e) { s with heap := h', toks := tk }) : wpAny (model prog w) A (unpackItems (.ref t) 2 none) Q E s := by
  have hne : t ≠ s.heap.objs.size := by obtain ⟨o, ho, _⟩ := hl; exact Nat.ne_of_lt (Heap.lt_size ho)
  refine unp_bad (fun R h => ?_) (fun R h => iter_tuple hl h) rfl hh (Walks.tuple hh _ t hne items) ⟨⟨_, Heap.get?_push_size _ rfl, rfl, rfl⟩, hl.push _⟩ hn hE
  unfold notIterableAtAll
  refine wpAny_bind (wpAny_specialOf hl.typeIs slot_tuple_iter.lookup ?_)
  exact wpAny_pure h
theorem str_iterable {x : Str} {t : Tok} {R : Bool → Shared → Prop} (h : R false s) : wpAny (model prog w) A (notIterableAtAll (.str x t)) R E s := by
  unfold notIterableAtAll
  refine wpAny_bind (wpAny_specialOf (typeIs_str s x t) F.slot_str_iter.lookup ?_)
  exact wpAny_pure h
theorem unp_bad_str {x : Str} {t : Tok} {Q : List Value → Shared → Prop} (hh : A.handled = none) (hn : x.cps.size = 1 ∨ x.cps.size = 3)
    (hE : ∀ h' tk e, Heap.NewExc s.heap h' e "ValueError" → E (.ref e) { s with heap := h', toks := tk }) : wpAny (model prog w) A (unpackItems (.str x t) 2 none) Q E s := by
  cases ha : x.cps.all (· < 128)
  · exact unp_bad (fun R h => str_iterable h) (fun R h => wpAny_pyIter_wide ha h) rfl hh (Walks.strWide hh _ x t) ⟨_, Heap.get?_push_size _ rfl, rfl, rfl⟩ hn hE
  · exact unp_bad (fun R h => str_iterable h) (fun R h => wpAny_pyIter_ascii ha h) rfl hh (Walks.strAscii hh _ x t) ⟨_, Heap.get?_push_size _ rfl, rfl, rfl⟩ hn hE
/-- two targets, a text of two signs -/
theorem unp_str2 {x : Str} {t : Tok} {a b : Nat} {Q : List Value → Shared → Prop} (hh : A.handled = none) (hx : x.cps = #[a, b])
    (hQ : ∀ ta tb h' tk, (∀ b o, s.heap.get? b = some o → h'.get? b = some o) → Q [.str ⟨#[a]⟩ ta, .str ⟨#[b]⟩ tb] { s with heap := h', toks := tk }) : wpAny (model prog w) A (unpackItems (.str x t) 2 none) Q E s := by
  unfold unpackItems
  refine wpAny_bind (str_iterable ?_)
  simp only [Bool.false_eq_true, if_false]
  refine wpAny_bind (wpAny_holding (wpAny_pyIter_str fun o St W st => ?_))
  (try dsimp only)
  have W := W A hh
  have hsz : x.cps.size = 2 := by rw [hx]; rfl
  rw [hsz] at W
  refine wpAny_bind (wpAny_holding (w_draw W 2 0 _ _ st (Nat.zero_le _) fun vs h₁ tk₁ hl hp hst hk => ?_))
  have h2 : vs.length = 2 := by simpa using hl
  rw [h2]
  rw [if_neg (by decide)]
  refine wpAny_bind (wpAny_holding (W.done _ _ _ (hst h2) fun h₂ tk₂ hk₂ => ?_))
  simp only [Option.isSome_none, Bool.false_eq_true, if_false]
  obtain ⟨v0, v1, rfl⟩ := list2 h2
  obtain ⟨c0, u0, e0, rfl⟩ := hp 0 v0 rfl
  obtain ⟨c1, u1, e1, rfl⟩ := hp 1 v1 rfl
  have f0 : a = c0 := by rw [hx] at e0; exact Option.some.inj e0
  have f1 : b = c1 := by rw [hx] at e1; exact Option.some.inj e1
  subst f0 f1
  exact wpAny_pure (hQ u0 u1 h₂ tk₂ fun b o e => hk₂ b o (by simpa using Nat.ne_of_lt (Heap.lt_size e)) (hk b o (Nat.ne_of_lt (Heap.lt_size e)) (Heap.get?_push_of_some _ e)))
end
section
variable {prog : Program} {w : World} {A : Around} {E : Value → Shared → Prop} {s : Shared} {env : Env} {h₀ : Heap} {L l : Addr} {m : Str → Option Value} {news : Led} {elts : List Expr} {k : Nat} {pos : Pos} {Q : Unit → Shared → Prop}
theorem asg_bad_list {items : Array Value} (hl : s.heap.IsList l items := by kun_lst) (hh : A.handled = none := by exact rfl) (hn : items.size = 1 ∨ items.size = 3 := by walk_at "N13") (ht : (assignEach elts env).length = 2 := by exact rfl) (hstar : (assignEach elts env).findIdx? (·.1) = none := by exact rfl)
    (hE : ∀ h' tk e, Heap.NewExc s.heap h' e "ValueError" → E (.ref e) { s with heap := h', toks := tk }) : wpAny (model prog w) A (assign (.Tuple elts k pos) env (.ref l)) Q E s := by
  rw [assign_Tuple]
  refine wpAny_bind (wpAny_standAt ?_)
  unfold unpack
  rw [ht, hstar]
  exact wpAny_bind (wpAny_holding (unp_bad_list hl hh hn hE))
theorem asg_bad_tuple {items : Array Value} (hl : IsTup s.heap l items := by kun_tup) (hh : A.handled = none := by exact rfl) (hn : items.size = 1 ∨ items.size = 3 := by walk_at "N13") (ht : (assignEach elts env).length = 2 := by exact rfl) (hstar : (assignEach elts env).findIdx? (·.1) = none := by exact rfl)
    (hE : ∀ h' tk e, Heap.NewExc s.heap h' e "ValueError" → E (.ref e) { s with heap := h', toks := tk }) : wpAny (model prog w) A (assign (.Tuple elts k pos) env (.ref l)) Q E s := by
  rw [assign_Tuple]
  refine wpAny_bind (wpAny_standAt ?_)
  unfold unpack
  rw [ht, hstar]
  exact wpAny_bind (wpAny_holding (unp_bad_tuple hl hh hn hE))
theorem asg_bad_str {x : Str} {t : Tok} (hh : A.handled = none := by exact rfl) (hn : x.cps.size = 1 ∨ x.cps.size = 3 := by assumption) (ht : (assignEach elts env).length = 2 := by exact rfl) (hstar : (assignEach elts env).findIdx? (·.1) = none := by exact rfl)
    (hE : ∀ h' tk e, Heap.NewExc s.heap h' e "ValueError" → E (.ref e) { s with heap := h', toks := tk }) : wpAny (model prog w) A (assign (.Tuple elts k pos) env (.str x t)) Q E s := by
  rw [assign_Tuple]
  refine wpAny_bind (wpAny_standAt ?_)
  unfold unpack
  rw [ht, hstar]
  exact wpAny_bind (wpAny_holding (unp_bad_str hh hn hE))
theorem asg_str2 {x : Str} {t : Tok} {a b : Nat} (F : Fr h₀ L s.heap m) (N : News h₀ L s.heap news) (hh : A.handled = none) (hx : x.cps = #[a, b]) (ht : (assignEach elts env).length = 2) (hstar : (assignEach elts env).findIdx? (·.1) = none)
    (h : ∀ ta tb h' tk, Fr h₀ L h' m → News h₀ L h' news → wpAny (model prog w) A (assignInOrder ((assignEach elts env).map (·.2)) [.str ⟨#[a]⟩ ta, .str ⟨#[b]⟩ tb]) Q E { s with heap := h', toks := tk }) :
    wpAny (model prog w) A (assign (.Tuple elts k pos) env (.str x t)) Q E s := by
  rw [assign_Tuple]
  refine wpAny_bind (wpAny_standAt ?_)
  unfold unpack
  rw [ht, hstar]
  exact wpAny_bind (wpAny_holding (unp_str2 hh hx fun ta tb h' tk e => h ta tb h' tk (F.keeps e) (N.grown e)))
end

local macro_rules | `(tactic| walk_at "assign Tuple") => `(tactic| (k_here; (with_reducible show wpAny _ _ (assign (Expr.Tuple _ _ _) _ (Value.ref _)) _ _ _); k_dflt (refine asg_bad_list (hE := ?_)); intro h' tk' e' x'))
local macro_rules | `(tactic| walk_at "assign Tuple") => `(tactic| (k_here; (with_reducible show wpAny _ _ (assign (Expr.Tuple _ _ _) _ (Value.ref _)) _ _ _); k_dflt (refine asg_bad_tuple (hE := ?_)); intro h' tk' e' x'))
abbrev AL := List (Str × Int)
section
variable {prog : Program} {w : World} {A : Around} {E : Value → Shared → Prop} {s : Shared} {env : Env} {h₀ : Heap} {target : Expr} {body : List Stmt} {Q : Flow → Shared → Prop}
theorem unrPostW_mono {L : Addr} {s₁ s₂ : Shared} {its : Led} {r r' : (Str → Option Value) → Led → Prop} {f : Flow} (hr : ∀ m n, r m n → r' m n) (h : UnrPostW h₀ L s₁ its r Q f s₂) : UnrPostW h₀ L s₁ its r' Q f s₂ := by
  cases f with
  | ret v => exact h
  | brk => exact h
  | next => obtain ⟨h', tk, m', n', e, F, N, o, x⟩ := h; exact ⟨h', tk, m', n', e, F, N, o, hr _ _ x⟩
  | cont => obtain ⟨h', tk, m', n', e, F, N, o, x⟩ := h; exact ⟨h', tk, m', n', e, F, N, o, hr _ _ x⟩
/-- a loop over a dict's items, by what holds between its turns -/
theorem items_inv {I : Addr} {nm : String} {keep : Led} (J : AL → (Str → Option Value) → Led → Prop)
    (turn : ∀ k n r m news, J ((k, n) :: r) m news → ∀ T t u h tk o, o.cls = .type nm → IsTup h T #[.str k t, .int n u] → Fr h₀ env.locals h m → News h₀ env.locals h ((I, o) :: news) →
      wpAny (model prog w) A (assign target env (.ref T)) (fun _ s₂ => wpAny (model prog w) A (execs body env) (UnrPostW h₀ env.locals { s with heap := h, toks := tk } [(I, o)] (fun m' n' => SubL keep n' ∧ J r m' n') Q) E s₂) E { s with heap := h, toks := tk })
    (done : ∀ m news, J [] m news → ∀ h tk, Fr h₀ env.locals h m → News h₀ env.locals h news → Q .next { s with heap := h, toks := tk }) :
    ∀ (c : AL) m news, J c m news → ItemsRest prog w A E h₀ env target body Q s [(I, nm)] keep ((kdpD c).map fun p => Itm.pairF (kyVal p.1) p.2) m news
  | [], m, news, j => done m news j
  | (k, n) :: c, m, news, j => by
    refine ItemsRest.pairF fun T t x h tk hx ht F => AllObj.cons fun o ho => AllObj.nil fun N => ?_
    obtain ⟨u, rfl⟩ := PyProof.V.Flat.int_inv hx
    refine wpAny_mono (turn k n c m news j T t u h tk o ho ht F N) (fun _ s₂ h₂ => wpAny_mono h₂ (fun f s₃ h₃ => ?_) fun _ _ e => e) fun _ _ e => e
    exact unrPostW_mono (fun m' n' x => ⟨x.1, items_inv J turn done c m' n' x.2⟩) h₃
theorem items_loop {elts : List Expr} {kk : Nat} {pos : Pos} {d vw : Addr} {od : Obj} {c : AL} {m₀ : Str → Option Value} {news : Led} (J : Led → (Str → Option Value) → AL → (Str → Option Value) → Led → Prop) (F : Fr h₀ env.locals s.heap m₀) (N : News h₀ env.locals s.heap news)
    (hh : A.handled = none) (hvw : ∃ ov, s.heap.get? vw = some ov ∧ ov.cls = .type "dict_items" ∧ ov.data = .fields #[.ref d]) (T : StrTab prog w s.heap d (kdpD c)) (hm : (d, od) ∈ news) (j : J news m₀ c m₀ news)
    (turn : ∀ k n r m nw, J news m₀ ((k, n) :: r) m nw → ∀ I T t u h tk o, (∀ p ∈ news, p.1 < I) → o.cls = .type "dict_itemiterator" → IsTup h T #[.str k t, .int n u] → Fr h₀ env.locals h m → News h₀ env.locals h ((I, o) :: nw) →
      wpAny (model prog w) A (assign (.Tuple elts kk pos) env (.ref T)) (fun _ s₂ => wpAny (model prog w) A (execs body env) (UnrPostW h₀ env.locals { s with heap := h, toks := tk } [(I, o)] (fun m' n' => SubL [(d, od)] n' ∧ J news m₀ r m' n') Q) E s₂) E { s with heap := h, toks := tk })
    (done : ∀ m nw, J news m₀ [] m nw → ∀ h tk, Fr h₀ env.locals h m → News h₀ env.locals h nw → Q .next { s with heap := h, toks := tk }) :
    wpAny (model prog w) A (pyIter (.ref vw)) (fun it s₂ => TurnsAt prog w A h₀ env (.Tuple elts kk pos) body Q E it s₂) E s :=
  kti_items (knd := PySem.strKind _ _) (enc := PyData.str) hh F N hvw T hm (fun _ _ h => Value.isStrOf_shape h) rfl fun I l1 => items_inv (J news m₀) (fun k n r m nw x T t u h tk o ho ht F N => turn k n r m nw x I T t u h tk o l1 ho ht F N) done c m₀ news j
theorem for_items {name : Str} {scope : Scope} {L a : Addr} {cd : Value} {x : Str} {elts : List Expr} {kk : Nat} {tpos p1 p2 p3 pos : Pos} {d : Addr} {od : Obj} {c : AL} {m₀ : Str → Option Value} {news : Led} (J : Led → (Str → Option Value) → AL → (Str → Option Value) → Led → Prop) (F : Fr h₀ L s.heap m₀) (N : News h₀ L s.heap news)
    (hx : m₀ x = some (.ref d)) (T : StrTab prog w s.heap d (kdpD c)) (hm : (d, od) ∈ news) (hh : A.handled = none) (j : J news m₀ c m₀ news)
    (hk : scope.kind = .function) (hl : (envOf name scope L a cd).kindOf x = some .local) (hd : (x == ("__debug__" : Str)) = false) (hE : PassesOwn (model prog w) A (envOf name scope L a cd) E) {pl : Sem Bool}
    (he : eval (.Call (.Attribute (.Name x p1) (Str.ofString "items") p2) [] [] p3) (envOf name scope L a cd) = (do
      let ov ← eval (.Name x p1) (envOf name scope L a cd)
      standAt p2.atName
      let (f, first) ← holding [ov] (getMethod ov (Str.ofString "items") pl)
      callWith p3 f first (backTo p3 (starEach [] (envOf name scope L a cd))) []))
    (turn : ∀ k n r m nw, J news m₀ ((k, n) :: r) m nw → ∀ I T t u h tk o, (∀ p ∈ news, p.1 < I) → o.cls = .type "dict_itemiterator" → IsTup h T #[.str k t, .int n u] → Fr h₀ L h m → News h₀ L h ((I, o) :: nw) →
      wpAny (model prog w) A (assign (.Tuple elts kk tpos) (envOf name scope L a cd) (.ref T)) (fun _ s₂ => wpAny (model prog w) A (execs body (envOf name scope L a cd)) (UnrPostW h₀ L { s with heap := h, toks := tk } [(I, o)] (fun m' n' => SubL [(d, od)] n' ∧ J news m₀ r m' n') Q) E s₂) E { s with heap := h, toks := tk })
    (done : ∀ m nw, J news m₀ [] m nw → ∀ h tk, Fr h₀ L h m → News h₀ L h nw → Q .next { s with heap := h, toks := tk }) :
    wpAny (model prog w) A (exec (.For (.Tuple elts kk tpos) (.Call (.Attribute (.Name x p1) (Str.ofString "items") p2) [] [] p3) body [] pos) (envOf name scope L a cd)) Q E s := by
  refine For_turns (env := envOf name scope L a cd) (h₀ := h₀) F ?_ (by intro _; rfl) hE
  refine MethodCall_ ?_ he
  refine ld F hx ?_ hk hl hd
  refine getMethod_tab (knd := PySem.strKind _ _) (enc := PyData.str) PySem.F.slot_dict_items PySem.F.type_dict_items T ?_
  refine callWith_method0 ?_
  refine call_items_tab (knd := PySem.strKind _ _) (enc := PyData.str) T F N ?_
  intro h' o' hv' F' N'
  have N' := kti_tail N'
  have T' : StrTab prog w h' d (kdpD c) := by
    obtain ⟨lo, kvs, ⟨o, es, ep, ho, r⟩, hf⟩ := T
    have e1 := (N _ hm).1
    rw [e1] at ho
    cases ho
    exact ⟨lo, kvs, ⟨_, es, ep, (N' _ hm).1, r⟩, hf⟩
  exact items_loop (env := envOf name scope L a cd) J F' N' hh hv' T' hm j (fun k n r m nw x I T t u h tk o l1 ho ht F N => turn k n r m nw x I T t u h tk o l1 ho ht F N) done
end
noncomputable def addS (a : AL) (p : Str × Int) : AL := if kdpHas a p.1 then kdpPut a p.1 (kdpLook a p.1 0 + p.2) else kdpPut a p.1 p.2
noncomputable def copyC (c : AL) : AL := c.foldl (fun a p => kdpPut a p.1 p.2) []
noncomputable def addC (t s : AL) : AL := s.foldl addS (copyC t)
theorem addS_len (a : AL) (p : Str × Int) : (addS a p).length ≤ a.length + 1 := by
  unfold addS; split <;> exact kdpPut_len _ _ _
/-- a dict of the ledger's: texts to ints -/
noncomputable def DI (w : World) (a : Addr) (o : Obj) (c : AL) : Prop := (a == sysModules) = false ∧ ∃ kvs, o.IsDictOf (PySem.strKind PR w) kvs ∧ PyProof.V.FlatPairs PyData.str kvs (kdpD c)
inductive OutD (w : World) (c : AL) (new : Led) (v : Value) : Prop
  | mk (r) (o) (_ : new = [(r, o)]) (_ : v = .ref r) (_ : DI w r o c) : OutD w c new v
theorem sub_two {a b : Addr × Obj} {news : Led} (h1 : a ∈ news) (h2 : b ∈ news) : ∀ p ∈ [a, b], p ∈ news := fun p hp => by
  rcases List.mem_cons.mp hp with rfl | hp
  · exact h1
  · rw [List.mem_singleton.mp hp]; exact h2
theorem copyGo_len : ∀ (c a : AL), (c.foldl (fun a p => kdpPut a p.1 p.2) a).length ≤ a.length + c.length
  | [], a => Nat.le_refl _
  | p :: c, a => by
    have h1 := copyGo_len c (kdpPut a p.1 p.2)
    have h2 := kdpPut_len a p.1 p.2
    simp only [List.foldl_cons, List.length_cons] at *
    omega
noncomputable def headSet (news₀ : Led) (o : Obj) : Led := match news₀ with
  | [] => []
  | p :: b => (p.1, o) :: b
/-- between two turns of add_callers' first loop -/
inductive JCopy (w : World) (goal : AL) (news₀ : Led) (m₀ : Str → Option Value) (r : AL) (m : Str → Option Value) (nw : Led) : Prop
  | mk (q : Str → Option Value) (o : Obj) (kvs : List (Str × Value)) (acc : AL) (_ : m = (fun y => if y = Str.ofString "caller" then q y else if y = Str.ofString "func" then q y else m₀ y)) (_ : nw = headSet news₀ o) (_ : o.IsDictOf (PySem.strKind PR w) kvs) (_ : PyProof.V.FlatPairs PyData.str kvs (kdpD acc)) (_ : r.foldl (fun a p => kdpPut a p.1 p.2) acc = goal) (_ : acc.length + r.length ≤ 1000) : JCopy w goal news₀ m₀ r m nw
theorem JCopy.on {P : (Str → Option Value) → Led → Prop} {w : World} {goal : AL} {news₀ : Led} {m₀ : Str → Option Value} {r : AL} {m : Str → Option Value} {nw : Led} (h : JCopy w goal news₀ m₀ r m nw)
    (kk : ∀ (q : Str → Option Value) (o : Obj) (kvs : List (Str × Value)) (acc : AL), (o.IsDictOf (PySem.strKind PR w) kvs) → (PyProof.V.FlatPairs PyData.str kvs (kdpD acc)) → (r.foldl (fun a p => kdpPut a p.1 p.2) acc = goal) → (acc.length + r.length ≤ 1000) → P (fun y => if y = Str.ofString "caller" then q y else if y = Str.ofString "func" then q y else m₀ y) (headSet news₀ o)) : P m nw := by
  obtain ⟨q, o, kvs, acc, rfl, rfl, h1, h2, h3, h4⟩ := h
  exact kk q o kvs acc h1 h2 h3 h4
theorem names2 {m₀ : Str → Option Value} (a b : Str) : m₀ = (fun y => if y = b then m₀ y else if y = a then m₀ y else m₀ y) := by
  funext y; simp
local macro_rules | `(tactic| kdp_size) => `(tactic| omega)
theorem names2' {m₀ q : Str → Option Value} {x y : Option Value} (a b : Str) : (fun z => if z = b then x else if z = a then y else if z = b then q z else if z = a then q z else m₀ z) = fun z => if z = b then (fun z => if z = b then x else y) z else if z = a then (fun z => if z = b then x else y) z else m₀ z := by
  funext z
  by_cases h1 : z = b
  · simp [h1]
  · by_cases h2 : z = a
    · simp [h1, h2]
    · simp [h1, h2]
/-- between two turns of add_callers' second loop -/
inductive JAdd (w : World) (goal : AL) (news₀ : Led) (m₀ : Str → Option Value) (r : AL) (m : Str → Option Value) (nw : Led) : Prop
  | mk (q : Str → Option Value) (o : Obj) (kvs : List (Str × Value)) (acc : AL) (_ : m = (fun y => if y = Str.ofString "caller" then q y else if y = Str.ofString "func" then q y else m₀ y)) (_ : nw = headSet news₀ o) (_ : o.IsDictOf (PySem.strKind PR w) kvs) (_ : PyProof.V.FlatPairs PyData.str kvs (kdpD acc)) (_ : r.foldl addS acc = goal) (_ : acc.length + r.length ≤ 2000) : JAdd w goal news₀ m₀ r m nw
theorem JAdd.on {P : (Str → Option Value) → Led → Prop} {w : World} {goal : AL} {news₀ : Led} {m₀ : Str → Option Value} {r : AL} {m : Str → Option Value} {nw : Led} (h : JAdd w goal news₀ m₀ r m nw)
    (kk : ∀ (q : Str → Option Value) (o : Obj) (kvs : List (Str × Value)) (acc : AL), (o.IsDictOf (PySem.strKind PR w) kvs) → (PyProof.V.FlatPairs PyData.str kvs (kdpD acc)) → (r.foldl addS acc = goal) → (acc.length + r.length ≤ 2000) → P (fun y => if y = Str.ofString "caller" then q y else if y = Str.ofString "func" then q y else m₀ y) (headSet news₀ o)) : P m nw := by
  obtain ⟨q, o, kvs, acc, rfl, rfl, h1, h2, h3, h4⟩ := h
  exact kk q o kvs acc h1 h2 h3 h4
theorem addS_hit {a : AL} {k : Str} {n : Int} (h : kdpHas a k = true) : addS a (k, n) = kdpPut a k (kdpLook a k 0 + n) := by simp [addS, h]
theorem addS_miss {a : AL} {k : Str} {n : Int} (h : kdpHas a k = false) : addS a (k, n) = kdpPut a k n := by simp [addS, h]
section
local macro_rules | `(tactic| walk_at "exec For Tuple Call cons nil") => `(tactic| (k_here; refine hold_in ?_))
local macro_rules | `(tactic| walk_at "exec For Tuple Call") => `(tactic| (k_here; refine hold_in ?_))
theorem c_add (w : World) (news : Led) (t sr : Addr) (ot os : Obj) (ct cs : AL) (hl1 : (t, ot) ∈ news) (hl2 : (sr, os) ∈ news) (ht : DI w t ot ct) (hsr : DI w sr os cs) (bt : ct.length ≤ 1000) (bs : cs.length ≤ 1000) :
    Con w 21 news [.ref t, .ref sr] 1 (OutD w (addC ct cs)) := by
  have hs := sub_two hl1 hl2
  clear hl1 hl2
  refine foldP fun G hG => ?_
  obtain ⟨lot, kt, hdt, hft⟩ := ht
  obtain ⟨los, ks, hds, hfs⟩ := hsr
  refine hG ?_
  clear hG G
  walk_at "BODY"
  refine Hold.out ?_
  (rename Fr _ _ _ _ => lF); (rename News _ _ _ _ => lN)
  k_dflt (refine' for_items (JCopy w (copyC ct)) ?F ?N ?hx ?T ?hm ?hh ?j ?h1 ?h2 ?h3 ?hE ?he ?turn ?done)
  case F => exact lF
  case N => exact lN
  case hx => rfl
  case hm => k_mem
  case T => k_tabat
  case hh => rfl
  case j => exact ⟨_, _, _, [], names2 _ _, rfl, by assumption, by assumption, rfl, by simpa using bt⟩
  case h1 => rfl
  case h2 => rfl
  case h3 => decide
  case he => with_unfolding_all rfl
  case hE => passes_own
  case turn =>
    clear lF lN
    intro k n r m nw hJ
    apply hJ.on
    clear hJ
    intro q o kvs acc hd hf hg hb I T t' u h tk oI l1 hI hT F N
    simp only [List.length_cons] at hb
    have hg : r.foldl (fun a p => kdpPut a p.1 p.2) (kdpPut acc k n) = copyC ct := hg
    dsimp only [headSet] at N
    k_lt l1
    (try dsimp only)
    (try walk_at "FOLD")
    k_steps
    exact ⟨_, _, _, _, names2' _ _, rfl, by assumption, by assumption, hg, by have := kdpPut_len acc k n; omega⟩
  case done =>
    clear lF lN
    intro m nw hJ
    apply hJ.on
    clear hJ
    intro q o kvs acc hd hf hg hb h tk F N
    have hg : acc = copyC ct := hg
    subst hg
    dsimp only [headSet] at N
    (try dsimp only)
    (try walk_at "FOLD")
    k_steps
    refine Hold.out ?_
    (rename Fr _ _ _ _ => lF); (rename News _ _ _ _ => lN)
    k_dflt (refine' for_items (JAdd w (addC ct cs)) ?F ?N ?hx ?T ?hm ?hh ?j ?h1 ?h2 ?h3 ?hE ?he ?turn ?done)
    case F => exact lF
    case N => exact lN
    case hx => rfl
    case hm => k_mem
    case T => k_tabat
    case hh => rfl
    case j => exact ⟨_, _, _, copyC ct, names2 _ _, rfl, by assumption, by assumption, rfl, by have := copyGo_len ct []; simp only [List.length_nil, copyC] at *; omega⟩
    case h1 => rfl
    case h2 => rfl
    case h3 => decide
    case he => with_unfolding_all rfl
    case hE => passes_own
    case turn =>
      clear lF lN
      intro k n r m nw hJ
      apply hJ.on
      clear hJ
      intro q o kvs acc hd hf hg hb I T t' u h tk oI l1 hI hT F N
      simp only [List.length_cons] at hb
      have hg : r.foldl addS (addS acc (k, n)) = addC ct cs := hg
      dsimp only [headSet] at N
      k_lt l1
      (try dsimp only)
      (try walk_at "FOLD")
      k_steps
      · rw [addS_hit (by assumption)] at hg
        exact ⟨_, _, _, _, names2' _ _, rfl, by assumption, by assumption, hg, by have := kdpPut_len acc k (kdpLook acc k 0 + n); omega⟩
      · rw [addS_miss (by assumption)] at hg
        exact ⟨_, _, _, _, names2' _ _, rfl, by assumption, by assumption, hg, by have := kdpPut_len acc k n; omega⟩
    case done =>
      clear lF lN
      intro m nw hJ
      apply hJ.on
      clear hJ
      intro q o kvs acc hd hf hg hb h tk F N
      have hg : acc = addC ct cs := hg
      subst hg
      dsimp only [headSet] at N
      (try dsimp only)
      (try walk_at "FOLD")
      k_steps
      exact endP_one (List.mem_cons_self ..) (by walk_at "OFF") ⟨_, _, rfl, rfl, by assumption, _, by assumption, by assumption⟩
end

section
variable {prog : Program} {w : World} {A : Around} {E : Value → Shared → Prop} {s : Shared} {x : Str} {t u : Tok} {i : Int} {Q : Value → Shared → Prop}
theorem call_add_bad (hh : A.handled = none) (hE : ∀ h' tk e, Heap.NewExc s.heap h' e "TypeError" → E (.ref e) { s with heap := h', toks := tk }) : wpAny (model prog w) A (call (.builtin "str.__add__") [.str x t, .int i u]) Q E s := by
  refine wpAny_call (codeAny_call_builtin F.slot_str_add.plain F.entry_str_add (F.slot_str_add.check _ _ _ _ _ _ _ _ (typeIs_str s x t) (F.args_str_add_2 _ _) ?_))
  unfold Builtin.«str.__add__»
  obtain ⟨h, g, d, tk, os⟩ := s
  wp_walk
  exact wpAny_raiseErrorMade plainExc_TypeError hh (fun h' tk e x => hE h' tk e x) (by rw [sizeLine_eq]; decide +kernel)
theorem add_str_int (hh : A.handled = none := by exact rfl) (hE : ∀ h' tk e, Heap.NewExc s.heap h' e "TypeError" → E (.ref e) { s with heap := h', toks := tk }) : wpAny (model prog w) A (binaryOp .Add (.str x t) (.int i u)) Q E s := by
  unfold binaryOp
  refine wpAny_holding ?_
  refine wpAny_bind (wpAny_binaryOp1_right_declines (nm := "add") (T := "str") (U := "int") (by decide) (typeIs_str s x t) (typeIs_int s i u) PySem.noFill_str_add F.fills_int_add F.slot_int_radd
    (call_gives F.slot_int_radd (typeIs_int s i u) F.entry_int_radd (F.args_int_radd_2 _ _) (AutoIntG4.int___radd___int_str_0 i u x t) ⟨rfl, ?_⟩))
  refine wpAny_bind (wpAny_typeOf (typeIs_str s x t) ?_)
  refine wpAny_bind (wpAny_of_eq PySem.seq_str_add ?_)
  exact wpAny_bind (wpAny_rule (call_add_bad hh hE))
theorem seqSlot_int : seqSlot? (.type "int") "__add__" = pure none := by
  simp only [seqSlot?]
  rw [show typeLookup (.type "int") (Str.ofString "__add__") = pure (some (.builtin "int.__add__")) from F.slot_int_add.lookup]
  rfl
theorem left_declines {M : Model} {a b : Value} {T U nm id : String} {Q : Option Value → Shared → Prop} (hTU : (Value.type T == Value.type U) = false) (ha : s.TypeIs a T) (hb : s.TypeIs b U)
    (hfT : fillsNumberSlot (.type T) nm = pure true) (hfU : fillsNumberSlot (.type U) nm = pure false) (h : Slot T (dunder nm) id)
    (hc : wpAny M A (call (.builtin id) [a, b]) (fun v s' => v = .notImplemented ∧ Q none s') E s) : wpAny M A (binaryOp1 nm a b) Q E s := by
  simp only [binaryOp1]
  refine wpAny_bind (wpAny_typeOf ha (wpAny_bind (wpAny_typeOf hb (wpAny_bind (wpAny_of_eq hfT ?_)))))
  refine wpAny_ite_false (decide_eq_false (by rw [hTU]; exact Bool.false_ne_true)) ?_
  refine wpAny_bind (wpAny_of_eq hfU ?_)
  repeat (first | refine wpAny_ite_false rfl ?_ | refine wpAny_ite_true rfl ?_ | refine wpAny_bind (wpAny_pure ?_) | refine wpAny_bind (wpAny_ite_false rfl (wpAny_pure ?_)))
  exact wpAny_bind (wpAny_tryMethod_declines ha h (wpAny_mono hc (fun v s' h' => ⟨h'.1, wpAny_pure h'.2⟩) fun _ _ e => e))
theorem add_int_str (hh : A.handled = none := by exact rfl) (hE : ∀ h' tk e, Heap.NewExc s.heap h' e "TypeError" → E (.ref e) { s with heap := h', toks := tk }) : wpAny (model prog w) A (binaryOp .Add (.int i u) (.str x t)) Q E s := by
  unfold binaryOp
  refine wpAny_holding ?_
  refine wpAny_bind (left_declines (nm := "add") (T := "int") (U := "str") (by decide) (typeIs_int s i u) (typeIs_str s x t) F.fills_int_add PySem.noFill_str_add F.slot_int_add
    (call_gives F.slot_int_add (typeIs_int s i u) F.entry_int_add (F.args_int_add_2 _ _) (AutoIntG6.int___add___int_str_0 i u x t) ⟨rfl, ?_⟩))
  refine wpAny_bind (wpAny_typeOf (typeIs_int s i u) ?_)
  refine wpAny_bind (wpAny_of_eq seqSlot_int ?_)
  unfold binopTypeError
  obtain ⟨h, g, d, tk, os⟩ := s
  wp_walk
  exact wpAny_raiseErrorMade plainExc_TypeError hh (fun h' tk e x => hE h' tk e x) (by rw [sizeLine_eq]; decide +kernel)
end

section
variable {prog : Program} {w : World} {A : Around} {E : Value → Shared → Prop} {s : Shared} {env : Env} {h₀ : Heap} {target : Expr} {body : List Stmt} {Q : Flow → Shared → Prop}
noncomputable def rangeItms : Nat → Nat → List Itm
  | _, 0 => []
  | i, n + 1 => .tok (fun t => .int (i : Int) t) :: rangeItms (i + 1) n
theorem rangeItms_length : ∀ (n i : Nat), (rangeItms i n).length = n
  | 0, _ => rfl
  | n + 1, i => congrArg (· + 1) (rangeItms_length n (i + 1))
theorem rangeItms_get : ∀ (n i k : Nat), k < n → (rangeItms i n)[k]? = some (.tok fun t => .int ((i + k : Nat) : Int) t)
  | 0, _, _, h => absurd h (Nat.not_lt_zero _)
  | n + 1, i, 0, _ => rfl
  | n + 1, i, k + 1, h => by
    have := rangeItms_get n (i + 1) k (by omega)
    have e : i + 1 + k = i + (k + 1) := by omega
    rw [e] at this
    simpa [rangeItms] using this
theorem range_inv {I : Addr} {nm : String} {N₀ : Nat} (J : Nat → (Str → Option Value) → Led → Prop)
    (turn : ∀ i m news, i < N₀ → J i m news → ∀ t h tk o, o.cls = .type nm → Fr h₀ env.locals h m → News h₀ env.locals h ((I, o) :: news) →
      wpAny (model prog w) A (assign target env (.int (i : Int) t)) (fun _ s₂ => wpAny (model prog w) A (execs body env) (UnrPostW h₀ env.locals { s with heap := h, toks := tk } [(I, o)] (fun m' n' => SubL [] n' ∧ J (i + 1) m' n') Q) E s₂) E { s with heap := h, toks := tk })
    (done : ∀ m news, J N₀ m news → ∀ h tk, Fr h₀ env.locals h m → News h₀ env.locals h news → Q .next { s with heap := h, toks := tk }) :
    ∀ (n i : Nat) m news, i + n = N₀ → J i m news → ItemsRest prog w A E h₀ env target body Q s [(I, nm)] [] (rangeItms i n) m news
  | 0, i, m, news, e, j => by
    have : i = N₀ := by omega
    subst this
    exact done m news j
  | n + 1, i, m, news, e, j => by
    refine ItemsRest.tok fun t h tk F => AllObj.cons fun o ho => AllObj.nil fun N => ?_
    refine wpAny_mono (turn i m news (by omega) j t h tk o ho F N) (fun _ s₂ h₂ => wpAny_mono h₂ (fun f s₃ h₃ => ?_) fun _ _ e => e) fun _ _ e => e
    exact unrPostW_mono (fun m' n' x => ⟨trivial, range_inv J turn done n (i + 1) m' n' (by omega) x.2⟩) h₃
theorem letGo_range {E : Value → Shared → Prop} {target : Expr} {I : Addr} {x left step : Int} {v : Value} {Q' : Unit → Shared → Prop} {s' : Shared} (hit : IsRangeIter s'.heap I x left step) (h : Q' () s') :
    wpAny (model prog w) A (letOwnedTupleGo target (.ref I) v) Q' E s' := by
  unfold letOwnedTupleGo
  cases target <;> first
    | exact wpAny_pure h
    | (cases v <;> first
        | exact wpAny_pure h
        | (refine wpAny_bind (wpAny_load hit ?_)
           exact wpAny_pure h))
theorem iter_range {r : Addr} {n : Nat} {b : Int} {t u v : Tok} {m₀ : Str → Option Value} {news : Led} (J : Led → (Str → Option Value) → Nat → (Str → Option Value) → Led → Prop) (F : Fr h₀ env.locals s.heap m₀) (N : News h₀ env.locals s.heap news)
    (hh : A.handled = none) (hr : IsRange s.heap r 0 b 1 t u v) (hb : b = (n : Int)) (hz : n ≤ 2 ^ 24) (j : J news m₀ 0 m₀ news)
    (turn : ∀ i m nw, i < n → J news m₀ i m nw → ∀ I t h tk o, (∀ p ∈ news, p.1 < I) → o.cls = .type "range_iterator" → Fr h₀ env.locals h m → News h₀ env.locals h ((I, o) :: nw) →
      wpAny (model prog w) A (assign target env (.int (i : Int) t)) (fun _ s₂ => wpAny (model prog w) A (execs body env) (UnrPostW h₀ env.locals { s with heap := h, toks := tk } [(I, o)] (fun m' n' => SubL [] n' ∧ J news m₀ (i + 1) m' n') Q) E s₂) E { s with heap := h, toks := tk })
    (done : ∀ m nw, J news m₀ n m nw → ∀ h tk, Fr h₀ env.locals h m → News h₀ env.locals h nw → Q .next { s with heap := h, toks := tk }) :
    wpAny (model prog w) A (pyIter (.ref r)) (fun it s₂ => TurnsAt prog w A h₀ env target body Q E it s₂) E s := by
  subst hb
  have e0 : Builtin.Range.rangeSize 0 (n : Int) 1 = (n : Int) := by rw [rangeSize_one]; split <;> omega
  have hsm : Builtin.Range.small 0 (n : Int) 1 = true := by
    unfold Builtin.Range.small
    rw [e0]
    simp [Builtin.Range.rangeFitsLong]
    omega
  refine wpAny_pyIter_range hr hsm ?_
  rw [e0]
  have lt0 : ∀ p ∈ news, p.1 < s.heap.objs.size := fun p hp => Heap.lt_size (N p hp).1
  refine ktu_core (s := s) (tk0 := s.toks) (keep := []) (ws := [(s.heap.objs.size, "range_iterator")]) (xs := rangeItms 0 n) (KTurns.ofWalks (Walks.range hh s.heap.objs.size 0 1 n).bound fun i v s Q E st q => letGo_range st q) (by rw [rangeItms_length]) (fun i v h hp => ?_) (fun i h st => ?_) (fun b hb => ?_) (fun b hb => by simpa using hb) (fun b hb => .inl (by simpa using hb)) ?_ (fun p hp hI => ?_) ?_ (F.push _) (fun p hp => ⟨Heap.get?_push_of_some _ (N p hp).1, (N p hp).2⟩) trivial (range_inv (J news m₀) (fun i m nw hi x t h tk o ho F N => turn i m nw hi x _ t h tk o lt0 ho F N) done n 0 m₀ news (by omega) j)
  · obtain ⟨hi, t, rfl⟩ := hp
    exact ⟨_, rangeItms_get n 0 i hi, t, by simp⟩
  · exact ⟨[(s.heap.objs.size, _)], ⟨⟨rfl, rfl⟩, trivial⟩, fun p hp => by rw [List.mem_singleton.mp hp]; exact st⟩
  · have hb' : b = s.heap.objs.size := by simpa using hb
    rw [hb']
    exact ⟨List.mem_cons_self .., next_is_new F⟩
  · intro hI
    exact absurd F.ns.lt (List.mem_singleton.mp hI ▸ Nat.lt_irrefl _)
  · exact absurd (Heap.lt_size (N p hp).1) ((List.mem_singleton.mp hI) ▸ Nat.lt_irrefl _)
  · simpa using Heap.get?_push_size _ rfl
end
section
variable {prog : Program} {w : World} {A : Around} {E : Value → Shared → Prop} {s : Shared} {h₀ : Heap} {L D : Addr} {m : Str → Option Value} {news news' : Led} {xs : List Value} {n : Nat} {k : Int} {t : Tok} {v : Value}
theorem setL {Q : Unit → Shared → Prop} (F : Fr h₀ L s.heap m := by k_asm) (N : News h₀ L s.heap news := by k_asm) (U : Upd D (listOf xs.toArray n) (listOf (xs.set k.toNat v).toArray n) news news' := by k_upd) (h0 : 0 ≤ k := by walk_at "IX0") (h1 : k < (xs.length : Int) := by walk_at "IX1") (hs : xs.length ≤ 64 := by omega)
    (h : ∀ h', Fr h₀ L h' m → News h₀ L h' news' → Q () { s with heap := h' }) : wpAny (model prog w) A (setItem (.ref D) (.int k t) v) Q E s := by
  obtain ⟨pre, post, rfl, rfl, a, b⟩ := U.split
  have z := N (D, listOf xs.toArray n) (List.mem_append.mpr (.inr (.head _)))
  refine ki_setAt z.1 h0 (by omega) (by simpa using h1) (h _ (F.change (Heap.SameBut.update ..) z.2.1 z.2.2) (ki_turn _ N a b ?_ ?_))
  · apply Array.toList_inj.mp
    simp
  · simp
theorem getL' {Q : Value → Shared → Prop} (N : News h₀ L s.heap news := by k_asm) (ml : (D, listOf xs.toArray n) ∈ news := by k_mem) (h0 : 0 ≤ k := by walk_at "IX0") (h1 : k < (xs.length : Int) := by walk_at "IX1") (hs : xs.length ≤ 64 := by omega)
    (h : ∀ x, xs[k.toNat]? = some x → Q x s) : wpAny (model prog w) A (getItem (.ref D) (.int k t)) Q E s := by
  obtain ⟨x, hx⟩ : ∃ x, xs[k.toNat]? = some x := ⟨_, List.getElem?_eq_getElem (by omega)⟩
  refine wpAny_getItem_list (PySem.IsL.isList (n := n) (N _ ml).1) h0 (by omega) ?_ (h x hx)
  simpa using hx
theorem subL {Q : Value → Shared → Prop} {value slice : PySem.Expr} (N : News h₀ L s.heap news := by k_asm) (ml : (D, listOf xs.toArray n) ∈ news := by k_mem) (h0 : 0 ≤ k := by walk_at "IX0") (h1 : k < (xs.length : Int) := by walk_at "IX1") (hs : xs.length ≤ 64 := by omega)
    (h : ∀ x, xs[k.toNat]? = some x → Q x s) (hb : subscripted slice false (.ref D) (.int k t) = operate [.ref D, .int k t] (getItem (.ref D) (.int k t)) := by with_unfolding_all rfl) : wpAny (model prog w) A (subscriptTail value slice (.ref D) (.int k t)) Q E s :=
  tail_any (PySem.IsL.isList (n := n) (N _ ml).1).typeIs slot_list_getitem.lookup (getL' N ml h0 h1 hs h) hb
end
theorem lenL {prog : Program} {w : World} {A : Around} {E : Value → Shared → Prop} {s : Shared} {h₀ : Heap} {L a : Addr} {news : Led} {xs : List Value} {n : Nat} {Q : Value → Shared → Prop} (N : News h₀ L s.heap news := by k_asm) (ml : (a, listOf xs.toArray n) ∈ news := by k_mem) (hn : xs.length ≤ 64 := by first | omega | (simp; omega))
    (h : ∀ t tk, Q (.int (xs.length : Int) t) { s with toks := tk }) : wpAny (model prog w) A (call (.builtin "len") [.ref a]) Q E s := by
  refine call_len_list (PySem.IsL.isList (n := n) (N _ ml).1) (by simp; omega) ?_
  exact h _ _
noncomputable def Ints (xs : List Value) : Prop := ∀ x ∈ xs, ∃ i t, x = .int i t
theorem Ints.at {xs : List Value} {k : Nat} {x : Value} (h : Ints xs) (e : xs[k]? = some x) : ∃ i t, x = .int i t := h x (List.mem_of_getElem? e)
theorem Ints.set {xs : List Value} (k : Nat) (i : Int) (t : Tok) (h : Ints xs) : Ints (xs.set k (.int i t)) := fun x hx => by
  rcases List.mem_or_eq_of_mem_set hx with hx | rfl
  · exact h x hx
  · exact ⟨i, t, rfl⟩
inductive OutN (n : Nat) (new : Led) (v : Value) : Prop
  | mk (r) (k) (xs) (_ : new = [(r, listOf (List.toArray xs) k)]) (_ : v = .ref r) (_ : Ints xs) (_ : xs.length = n) : OutN n new v
inductive JCells (news₀ : Led) (m₀ : Str → Option Value) (z1 : Nat) (m : Str → Option Value) (nw : Led) : Prop
  | mk (q : Str → Option Value) (xs : List Value) (c : Nat) (_ : m = (fun y => if y = Str.ofString "k" then q y else m₀ y)) (_ : nw = headSet news₀ (listOf xs.toArray c)) (_ : Ints xs) (_ : xs.length = 6) : JCells news₀ m₀ z1 m nw
theorem JCells.on {P : (Str → Option Value) → Led → Prop} {news₀ : Led} {m₀ : Str → Option Value} {z1 : Nat} {m : Str → Option Value} {nw : Led} (h : JCells news₀ m₀ z1 m nw)
    (kk : ∀ (q : Str → Option Value) (xs : List Value) (c : Nat), (Ints xs) → (xs.length = 6) → P (fun y => if y = Str.ofString "k" then q y else m₀ y) (headSet news₀ (listOf xs.toArray c))) : P m nw := by
  obtain ⟨q, xs, c, rfl, rfl, h1, h2⟩ := h
  exact kk q xs c h1 h2
theorem names1 {m₀ : Str → Option Value} (b : Str) : m₀ = (fun y => if y = b then m₀ y else m₀ y) := by
  funext y; simp
theorem names1' {m₀ q : Str → Option Value} {x : Option Value} (b : Str) : (fun z => if z = b then x else if z = b then q z else m₀ z) = fun z => if z = b then (fun _ => x) z else m₀ z := by
  funext z
  by_cases h : z = b <;> simp [h]
section
local macro_rules | `(tactic| walk_at "exec For Name Call cons nil") => `(tactic| (k_here; refine hold_in ?_))
local macro_rules | `(tactic| walk_at "exec For Name Call") => `(tactic| (k_here; refine hold_in ?_))
local macro_rules | `(tactic| walk_at "call builtin:len") => `(tactic| (k_here; k_dflt (refine lenL (h := ?_)); intro t' tk'))
local macro_rules | `(tactic| walk_at "pyIter ref") => `(tactic| (k_here; refine hold_in ?_))
local macro_rules | `(tactic| walk_at "IX0") => `(tactic| first | omega | exact (fm_range _ _ (by decide)).1)
local macro_rules | `(tactic| walk_at "IX1") => `(tactic| first | omega | (simp; omega) | (refine Int.lt_of_lt_of_le (fm_range _ 6 (by decide)).2 ?_; omega))
local macro_rules | `(tactic| walk_at "getItem ref int") => `(tactic| (k_here; k_dflt (refine getL' (h := ?_)); intro x' hx'; (obtain ⟨i', t', hx2'⟩ := Ints.at (by assumption) hx'); subst hx2'))
local macro_rules | `(tactic| walk_at "subscriptTail") => `(tactic| ((with_reducible show wpAny _ _ (subscriptTail _ _ (Value.ref _) (Value.int _ _)) _ _ _); k_dflt (refine subL (h := ?_)); intro x' hx'; (obtain ⟨i', t', hx2'⟩ := Ints.at (by assumption) hx'); subst hx2'))
local macro_rules | `(tactic| walk_at "setItem ref int") => `(tactic| (k_here; (try dsimp only); k_dflt (refine setL (h := ?_)); intro h' F' N'; (try k_sweep)))
theorem c_cells (w : World) (news : Led) (l c : Nat) (xs : List Value) (hl : (l, listOf xs.toArray c) ∈ news) (hx : Ints xs) (hn : xs.length ≤ 63) : Con w 49 news [.ref l] 1 (OutN 6) := by
  have hs := sub_one hl
  clear hl
  walk_at "BODY"
  refine Hold.out ?_
  (rename Fr _ _ _ _ => lF)
  refine For_turns lF ?_ (by intro _; rfl) (by passes_own)
  k_steps
  refine Hold.out ?_
  rename IsRange _ _ _ _ _ _ _ _ => lR
  (rename Fr _ _ _ _ => lF); (rename News _ _ _ _ => lN)
  k_dflt (refine' iter_range JCells ?F ?N ?hh ?hr ?hb ?hz ?j ?turn ?done)
  case F => exact lF
  case N => exact lN
  case hh => rfl
  case hr => exact lR
  case hb => rfl
  case hz => omega
  case j => exact ⟨_, _, _, names1 _, rfl, by intro x hx; simp at hx; rcases hx with rfl|rfl|rfl|rfl|rfl|rfl <;> exact ⟨_, _, rfl⟩, rfl⟩
  case turn =>
    walk_at "DROP"
    intro i m nw hi hJ
    apply hJ.on
    clear hJ
    intro q ys c' hy hn6 I t h tk oI l1 hI F N
    dsimp only [headSet] at N
    k_lt l1
    (try dsimp only)
    (try walk_at "FOLD")
    k_steps
    exact ⟨_, _, _, names1' _, rfl, Ints.set _ _ _ hy, by rw [List.length_set]; exact hn6⟩
  case done =>
    walk_at "DROP"
    intro m nw hJ
    apply hJ.on
    clear hJ
    intro q ys c' hy hn6 h tk F N
    dsimp only [headSet] at N
    (try dsimp only)
    (try walk_at "FOLD")
    k_steps
    exact endP_one (List.mem_cons_self ..) (by walk_at "OFF") ⟨_, _, _, rfl, rfl, hy, hn6⟩
section
variable {prog : Program} {w : World} {A : Around} {E : Value → Shared → Prop} {s : Shared} {h₀ : Heap} {L D : Addr} {m : Str → Option Value} {xs : List Value} {k : Int} {t : Tok} {v : Value}
theorem subB {Q : Value → Shared → Prop} {value slice : PySem.Expr} (F : Fr h₀ L s.heap m := by k_asm) (hl : h₀.IsList D xs.toArray := by assumption) (h0 : 0 ≤ k := by walk_at "IX0") (h1 : k < (xs.length : Int) := by walk_at "IX1") (hs : xs.length ≤ 64 := by omega)
    (h : ∀ x, xs[k.toNat]? = some x → Q x s) (hb : subscripted slice false (.ref D) (.int k t) = operate [.ref D, .int k t] (getItem (.ref D) (.int k t)) := by with_unfolding_all rfl) : wpAny (model prog w) A (subscriptTail value slice (.ref D) (.int k t)) Q E s := by
  have hl' : s.heap.IsList D xs.toArray := by obtain ⟨o, ho, r⟩ := hl; exact ⟨o, F.keep _ _ ho, r⟩
  obtain ⟨x, hx⟩ : ∃ x, xs[k.toNat]? = some x := ⟨_, List.getElem?_eq_getElem (by omega)⟩
  exact tail_any hl'.typeIs slot_list_getitem.lookup (wpAny_getItem_list hl' h0 (by omega) (by simpa using hx) (h x hx)) hb
theorem lenB {Q : Value → Shared → Prop} (F : Fr h₀ L s.heap m := by k_asm) (hl : h₀.IsList D xs.toArray := by assumption) (hn : xs.length ≤ 64 := by omega)
    (h : ∀ t tk, Q (.int (xs.length : Int) t) { s with toks := tk }) : wpAny (model prog w) A (call (.builtin "len") [.ref D]) Q E s := by
  have hl' : s.heap.IsList D xs.toArray := by obtain ⟨o, ho, r⟩ := hl; exact ⟨o, F.keep _ _ ho, r⟩
  refine call_len_list hl' (by simp; omega) ?_
  exact h _ _
end
/-- a contract of a def whose one argument is a list of the base -/
noncomputable def ConL (w : World) (f : Addr) (news : Led) (l : Addr) (xs : List Value) (n : Nat) (D : Led → Value → Prop) : Prop :=
  ∀ (loose : List Str) (mean : ExcName → Option Value) (mg mb : Str → Option Value) (dp un : Nat) (gd : Option (List Code)) (cn : Str) (cs : Scope) (a : Addr) (ccd : Value) (cl : List (Str × Addr)) (outer : List Env) (A₀ : Around) (base h₀ : Heap) (L : Addr) (m : Str → Option Value) (s : Shared) (Q E : Value → Shared → Prop),
    Below A₀ base outer h₀ → Fr h₀ L s.heap m → (Mine.hd.heap_1 w.params).In h₀ → News h₀ L s.heap news → Top Mine.hd.view_1 loose mean mg mb h₀ → cs.kind = .function →
    dp + n ≤ 900 → un + 100 * n ≤ 2000 → h₀.IsList l xs.toArray → Ret h₀ L m news s Q D →
      wpAny (model PR w) (ktrTop dp un gd cn cs L a ccd cl outer) (call (.ref f) [.ref l]) Q E s
local macro_rules | `(tactic| walk_at "call builtin:len") => `(tactic| (k_here; k_dflt (refine lenB (h := ?_)); intro t' tk'))
local macro_rules | `(tactic| walk_at "subscriptTail") => `(tactic| (k_here; (with_reducible show wpAny _ _ (subscriptTail _ _ (Value.ref _) (Value.int _ _)) _ _ _); k_dflt (refine subB (h := ?_)); intro x' hx'; (obtain ⟨i', t', hx2'⟩ := Ints.at (by assumption) hx'); subst hx2'))
theorem c_cellsB (w : World) (news : Led) (l : Nat) (xs : List Value) (hx : Ints xs) (hn : xs.length ≤ 63) : ConL w 49 news l xs 1 (OutN 6) := by
  have hs : ∀ p ∈ ([] : Led), p ∈ news := by simp
  intro loose mean mg mb dp un gd cn cs a ccd cl outer A₀ base h₀ L m s Q E B F X N T hk hdp hun hL hret
  have hLs : s.heap.IsList l xs.toArray := by obtain ⟨o, ho, r⟩ := hL; exact ⟨o, F.keep _ _ ho, r⟩
  w_on
  walk_at "ENTER"
  (rename EntP _ _ _ _ _ _ _ _ _ => lX)
  have hG : _ := (show _ from (by obtain ⟨o, ho, r⟩ := hLs; exact ⟨o, lX.back _ _ ho (by simp), r⟩ : Heap.IsList _ l xs.toArray))
  clear B F X N T hret hL hLs
  k_steps
  refine Hold.out ?_
  (rename Fr _ _ _ _ => lF)
  refine For_turns lF ?_ (by intro _; rfl) (by passes_own)
  k_steps
  refine Hold.out ?_
  rename IsRange _ _ _ _ _ _ _ _ => lR
  (rename Fr _ _ _ _ => lF); (rename News _ _ _ _ => lN)
  k_dflt (refine' iter_range JCells ?F ?N ?hh ?hr ?hb ?hz ?j ?turn ?done)
  case F => exact lF
  case N => exact lN
  case hh => rfl
  case hr => exact lR
  case hb => rfl
  case hz => omega
  case j => exact ⟨_, _, _, names1 _, rfl, by intro x hx; simp at hx; rcases hx with rfl|rfl|rfl|rfl|rfl|rfl <;> exact ⟨_, _, rfl⟩, rfl⟩
  case turn =>
    walk_at "DROP"
    intro i m nw hi hJ
    apply hJ.on
    clear hJ
    intro q ys c' hy hn6 I t h tk oI l1 hI F N
    dsimp only [headSet] at N
    k_lt l1
    (try dsimp only)
    (try walk_at "FOLD")
    k_steps
    exact ⟨_, _, _, names1' _, rfl, Ints.set _ _ _ hy, by rw [List.length_set]; exact hn6⟩
  case done =>
    walk_at "DROP"
    intro m nw hJ
    apply hJ.on
    clear hJ
    intro q ys c' hy hn6 h tk F N
    dsimp only [headSet] at N
    (try dsimp only)
    (try walk_at "FOLD")
    k_steps
    exact endP_one (List.mem_cons_self ..) (fun _ hr => nomatch hr) ⟨_, _, _, rfl, rfl, hy, hn6⟩
end
section
variable {prog : Program} {w : World} {A : Around} {E : Value → Shared → Prop} {s : Shared} {env : Env} {h₀ : Heap} {target : Expr} {body : List Stmt} {Q : Flow → Shared → Prop}
noncomputable def sg1 (c : Nat) : Str := ⟨#[c]⟩
noncomputable def strItms (cs : List Nat) : List Itm := cs.map fun c => .tok (fun t => .str (sg1 c) t)
theorem str_inv {I : Addr} {nm : String} (J : List Nat → (Str → Option Value) → Led → Prop)
    (turn : ∀ c r m news, J (c :: r) m news → ∀ t h tk o, o.cls = .type nm → Fr h₀ env.locals h m → News h₀ env.locals h ((I, o) :: news) →
      wpAny (model prog w) A (assign target env (.str (sg1 c) t)) (fun _ s₂ => wpAny (model prog w) A (execs body env) (UnrPostW h₀ env.locals { s with heap := h, toks := tk } [(I, o)] (fun m' n' => SubL [] n' ∧ J r m' n') Q) E s₂) E { s with heap := h, toks := tk })
    (done : ∀ m news, J [] m news → ∀ h tk, Fr h₀ env.locals h m → News h₀ env.locals h news → Q .next { s with heap := h, toks := tk }) :
    ∀ (c : List Nat) m news, J c m news → ItemsRest prog w A E h₀ env target body Q s [(I, nm)] [] (strItms c) m news
  | [], m, news, j => done m news j
  | c :: r, m, news, j => by
    refine ItemsRest.tok fun t h tk F => AllObj.cons fun o ho => AllObj.nil fun N => ?_
    refine wpAny_mono (turn c r m news j t h tk o ho F N) (fun _ s₂ h₂ => wpAny_mono h₂ (fun f s₃ h₃ => ?_) fun _ _ e => e) fun _ _ e => e
    exact unrPostW_mono (fun m' n' x => ⟨trivial, str_inv J turn done r m' n' x.2⟩) h₃
theorem letGo_str {E : Value → Shared → Prop} {target : Expr} {I : Addr} {x : Str} {t : Tok} {i : Nat} {v : Value} {Q' : Unit → Shared → Prop} {s' : Shared} (hit : s'.heap.IsStrIter I "str_ascii_iterator" x t i) (h : Q' () s') :
    wpAny (model prog w) A (letOwnedTupleGo target (.ref I) v) Q' E s' := by
  obtain ⟨o, ho, hc, hd⟩ := hit
  unfold letOwnedTupleGo
  cases target <;> first
    | exact wpAny_pure h
    | (cases v <;> first
        | exact wpAny_pure h
        | (refine wpAny_bind (wpAny_load ho ?_)
           rw [hc, hd]
           exact wpAny_pure h))
theorem iter_str {x : Str} {t : Tok} {m₀ : Str → Option Value} {news : Led} (J : Led → (Str → Option Value) → List Nat → (Str → Option Value) → Led → Prop) (F : Fr h₀ env.locals s.heap m₀) (N : News h₀ env.locals s.heap news)
    (hh : A.handled = none) (ha : x.cps.all (· < 128) = true) (j : J news m₀ x.cps.toList m₀ news)
    (turn : ∀ c r m nw, J news m₀ (c :: r) m nw → ∀ I t h tk o, (∀ p ∈ news, p.1 < I) → o.cls = .type "str_ascii_iterator" → Fr h₀ env.locals h m → News h₀ env.locals h ((I, o) :: nw) →
      wpAny (model prog w) A (assign target env (.str (sg1 c) t)) (fun _ s₂ => wpAny (model prog w) A (execs body env) (UnrPostW h₀ env.locals { s with heap := h, toks := tk } [(I, o)] (fun m' n' => SubL [] n' ∧ J news m₀ r m' n') Q) E s₂) E { s with heap := h, toks := tk })
    (done : ∀ m nw, J news m₀ [] m nw → ∀ h tk, Fr h₀ env.locals h m → News h₀ env.locals h nw → Q .next { s with heap := h, toks := tk }) :
    wpAny (model prog w) A (pyIter (.str x t)) (fun it s₂ => TurnsAt prog w A h₀ env target body Q E it s₂) E s := by
  refine wpAny_pyIter_ascii ha ?_
  have lt0 : ∀ p ∈ news, p.1 < s.heap.objs.size := fun p hp => Heap.lt_size (N p hp).1
  refine ktu_core (s := s) (tk0 := s.toks) (keep := []) (ws := [(s.heap.objs.size, "str_ascii_iterator")]) (xs := strItms x.cps.toList) (KTurns.ofWalks (Walks.strAscii hh s.heap.objs.size x t) fun i v s Q E st q => letGo_str st q) (by simp [strItms]) (fun i v h hp => ?_) (fun i h st => ?_) (fun b hb => ?_) (fun b hb => by simpa using hb) (fun b hb => .inl (by simpa using hb)) ?_ (fun p hp hI => ?_) ⟨_, Heap.get?_push_size _ rfl, rfl, rfl⟩ (F.push _) (fun p hp => ⟨Heap.get?_push_of_some _ (N p hp).1, (N p hp).2⟩) trivial (str_inv (J news m₀) (fun c r m nw x t h tk o ho F N => turn c r m nw x _ t h tk o lt0 ho F N) done x.cps.toList m₀ news j)
  · obtain ⟨c, u, hc, rfl⟩ := hp
    exact ⟨.tok fun t => .str (sg1 c) t, by rw [strItms, List.getElem?_map, Array.getElem?_toList, hc]; rfl, u, rfl⟩
  · obtain ⟨o, ho, hc, _⟩ := st
    exact ⟨[(s.heap.objs.size, o)], ⟨⟨rfl, hc⟩, trivial⟩, fun p hp => by rw [List.mem_singleton.mp hp]; exact ho⟩
  · have hb' : b = s.heap.objs.size := by simpa using hb
    rw [hb']
    exact ⟨List.mem_cons_self .., next_is_new F⟩
  · intro hI
    exact absurd F.ns.lt (List.mem_singleton.mp hI ▸ Nat.lt_irrefl _)
  · exact absurd (Heap.lt_size (N p hp).1) ((List.mem_singleton.mp hI) ▸ Nat.lt_irrefl _)
end
section
open LCg
variable {prog : Program} {w : World} {A : Around} {E : Value → Shared → Prop} {s : Shared} {h₀ : Heap} {L : Addr} {m : Str → Option Value} {env : Env}
inductive CompSrcS (prog : Program) (w : World) (A : Around) (h₀ : Heap) (L : Addr) (m : Str → Option Value) (env : Env) (elt : Expr) (x : Str) (scope : Scope) (cl : List (Str × Addr)) (Fin : Shared → List Value → List (Addr × Obj) → Prop) (xv : Value) (s₁ : Shared) : Prop
  | mk (z) (t) (news) (_ : xv = .str z t) (_ : z.cps.all (· < 128) = true) (_ : A.handled = none) (_ : Fr h₀ L s₁.heap m) (_ : News h₀ L s₁.heap news) (_ : z.cps.size ≤ sizeLine) (_ : ∀ s₂ : Shared, (∃ h, s₂ = { s₁ with heap := h }) → CompRest prog w A h₀ L m env elt x scope cl s₂ (fun _ => True) (SignAt z) (Fin s₂) z.cps.size 0 [] news) : CompSrcS prog w A h₀ L m env elt x scope cl Fin xv s₁
theorem CompSrcS.text {elt : Expr} {x : Str} {scope : Scope} {cl : List (Str × Addr)} {Fin : Shared → List Value → List (Addr × Obj) → Prop} {z : Str} {t : Tok} {news : List (Addr × Obj)} {s₁ : Shared}
    (ha : z.cps.all (· < 128) = true) (hh : A.handled = none) (F : Fr h₀ L s₁.heap m) (N : News h₀ L s₁.heap news) (hsz : z.cps.size ≤ sizeLine)
    (h : ∀ g, CompRest prog w A h₀ L m env elt x scope cl { s₁ with heap := g } (fun _ => True) (SignAt z) (Fin { s₁ with heap := g }) z.cps.size 0 [] news) :
    CompSrcS prog w A h₀ L m env elt x scope cl Fin (.str z t) s₁ := ⟨z, t, news, rfl, ha, hh, F, N, hsz, fun _ ⟨g, e⟩ => e ▸ h g⟩
theorem str_st {z : Str} {t : Tok} {I : Addr} : ∀ i (h h' : Heap) (o : Obj) (nw : List (Addr × Obj)), h.IsStrIter I "str_ascii_iterator" z t i → h.get? I = some o → h'.get? I = some o → (∀ b o, h₀.get? b = some o → h'.get? b = some o) → News h₀ L h' nw → True → h'.IsStrIter I "str_ascii_iterator" z t i :=
  fun i h h' o nw st e e' _ _ _ => by
    obtain ⟨o', q, r⟩ := st
    rw [e] at q; cases q
    exact ⟨o, e', r⟩
theorem Assign_ListComp_S {elt iter : Expr} {x y : Str} {px py : Pos} {scope : Scope} {cl : List (Str × Addr)} {pos spos : Pos} {Q : Flow → Shared → Prop} (F₀ : Fr h₀ L s.heap m) (hLe : env.locals = L)
    (hsw : swapsWith (.ListComp elt [⟨.Name x px, iter, [], 0⟩] scope pos) (some (.Name y py)) spos.line env = pure true)
    (hclos : closureFor scope env = pure cl) (hcell : ∀ z ∈ scope.names, z.2 ≠ .cell) (hkind : scope.kind = .function)
    (hnames : ∀ z ∈ scope.names, z.2 = .local → scope.names.lookup z.1 = some .local) (hx : scope.names.lookup x = some .local)
    (hy : env.kindOf y = some .local) (hp : (env.scope.kind == .class || (env.scope.kind == .module && env.locals != env.globals)) = false)
    (h : wpAny (model prog w) A (eval iter env) (CompSrcS prog w A h₀ L m env elt x scope cl (fun s₂ => FinA h₀ L m s₂ y Q)) E s)
    (hs : ∀ x, foldedSetIterable iter env x = pure x := by intro _; rfl) :
    wpAny (model prog w) A (exec (.Assign [.Name y py] (.ListComp elt [⟨.Name x px, iter, [], 0⟩] scope pos) spos) env) Q E s := by
  subst hLe
  rw [exec_Assign_Name_used _ _ _ _ hsw]
  refine wpAny_bind (wpAny_standAt (wpAny_bind ?_))
  show wpAny _ A (do let _ ← comprehension (.ListComp elt [⟨.Name x px, iter, [], 0⟩] scope pos) scope env _ (newList []) false (eval iter env) (some (assign (.Name y py) env))) _ _ s
  refine wpAny_bind (wpAny_mono (wpAny_comprehension_free (use := some (assign (.Name y py) env)) (Q := fun _ s' => Q .next s') rfl hs hclos hkind hnames
    (wpAny_mono h (fun xv s₁ h₁ => ?_) fun _ _ e => e)) (fun _ s' hq => wpAny_pure (wpAny_pure hq)) fun _ _ e => e)
  refine foldP fun G hG => ?_
  obtain ⟨z, t, news, zr1, ha, hh, F, N, hsz, R⟩ := h₁
  refine hG ?_
  clear hG G
  subst zr1
  refine wpAny_pyIter_ascii ha ?_
  refine block_U (Walks.strAscii hh s₁.heap.objs.size z t) hsz (fun i h st => by obtain ⟨o, e, _⟩ := st; exact ⟨o, e⟩) str_st hcell hkind hx ⟨_, Heap.get?_push_size _ rfl, rfl, rfl⟩ (fun b hb => ?_)
    (F.keeps fun _ _ e => Heap.get?_push_of_some _ e) (N.grown fun _ _ e => Heap.get?_push_of_some _ e) (Nat.ne_of_lt F.ns.lt) (next_is_new F) (fun p hp => Nat.ne_of_lt (Heap.lt_size (N p hp).1)) trivial (R _ ⟨_, rfl⟩) ?_
  · rw [List.mem_singleton.mp hb]
    show s₁.heap.objs.size < (s₁.heap.push _).objs.size
    rw [Heap.size_push]; exact Nat.lt_succ_self _
  · intro D C h' tk m' ys news' F' N' o1 hn hC₀ hD₀ hCL hDL hCD offC fin
    show wpAny _ A (assign (.Name y py) env (.ref D)) _ _ _
    refine wpAny_assign_Name (wpAny_storeName_local hy F'.ns (fun h₂ hn₂ hs₂ => ?_) hp)
    have hL₀ : h₀.get? env.locals = none := Heap.get?_none_of_le F'.above
    have F₂ : Fr h₀ env.locals h₂ (fun z => if z = y then some (.ref D) else m z) := ⟨hn₂, fun b o e => hs₂.extBut b o (fun q => by rw [q, hL₀] at e; cases e) (F'.keep b o e), F'.above⟩
    refine ⟨m', hn.sameBut hs₂ hCL, fun h'' hs'' => fin D h'' _ (F₂.change hs'' hCL hC₀) (fun p hp => ?_) o1⟩
    have z : h₂.get? p.1 = some p.2 := hs₂.extBut _ _ (N' p hp).2.1 (N' p hp).1
    refine ⟨hs''.extBut _ _ ?_ z, (N' p hp).2⟩
    rcases List.mem_cons.mp hp with rfl | hp
    · exact Ne.symm hCD
    · exact offC p hp
end
section
open LCg LCt
variable {prog : Program} {w : World} {A : Around} {s : Shared} {h₀ : Heap} {L : Addr} {m : Str → Option Value} {env : Env}
theorem compEnd_mono {s₁ : Shared} {I C D : Addr} {oI oC oD : Obj} {S : Led → Prop} {rest rest' : Value → Led → Prop} {y : Value} {s₂ : Shared} (hr : ∀ nw, rest y nw → rest' y nw) (h : CompEnd h₀ L m s₁ I oI C oC D oD S rest y s₂) : CompEnd h₀ L m s₁ I oI C oC D oD S rest' y s₂ := by
  obtain ⟨h', tk, nw, e, F, N, o, hs, r⟩ := h
  exact ⟨h', tk, nw, e, F, N, o, hs, hr _ r⟩
/-- a comprehension's turns, by what each element is -/
theorem compRest_each {elt : Expr} {x : Str} {scope : Scope} {cl : List (Str × Addr)} {S : Led → Prop} {P : Nat → Value → Prop} {Fin : List Value → Led → Prop} {n : Nat} (K : Nat → List Value → Led → Prop) {news : Led}
    (elem : ∀ i ys nw v I oI C oC D m₂ h tk (E' : Value → Shared → Prop), i < n → K i ys nw → P i v → NsObj oC m₂ → m₂ x = some v → Fr h₀ L h m → News h₀ L h ((I, oI) :: (C, oC) :: (D, lst ys) :: nw) → Off3 I C D nw → ((@Ne Nat I C) ∧ (@Ne Nat I D) ∧ (@Ne Nat C D)) →
      wpAny (model prog w) A (eval elt (compEnvC scope cl C env)) (CompEnd h₀ L m { s with heap := h, toks := tk } I oI C oC D (lst ys) S (fun y news' => K (i + 1) (ys ++ [y]) news')) E' { s with heap := h, toks := tk })
    (k0 : K 0 [] news) (fin : ∀ ys nw, K n ys nw → Fin ys nw) : CompRest prog w A h₀ L m env elt x scope cl s S P Fin n 0 [] news := by
  have go : ∀ k i ys nw, i + k = n → K i ys nw → CompRest prog w A h₀ L m env elt x scope cl s S P Fin k i ys nw := by
    intro k
    induction k with
    | zero =>
      intro i ys nw e hK
      have : i = n := by omega
      subst this
      exact CompRest.zero (fin _ _ hK)
    | succ k ih =>
      intro i ys nw e hK
      refine CompRest.succ fun v I oI C oC D m₂ h tk E' hv hC hx F N off ne => ?_
      exact wpAny_mono (elem i ys nw v I oI C oC D m₂ h tk E' (by omega) hK hv hC hx F N off ne) (fun y s' c => compEnd_mono (fun nw' r => ih _ _ _ (by omega) r) c) fun _ _ e => e
  exact go n 0 [] news (by omega) k0
/-- a comprehension with a test -/
theorem compRestT_each {ct elt : Expr} {x : Str} {scope : Scope} {cl : List (Str × Addr)} {S : Led → Prop} {P : Nat → Value → Prop} {Fin : List Value → Led → Prop} {n : Nat} (K : Nat → List Value → Led → Prop) {news : Led}
    (elem : ∀ i ys nw v I oI C oC D m₂ h tk (E' : Value → Shared → Prop), i < n → K i ys nw → P i v → NsObj oC m₂ → m₂ x = some v → Fr h₀ L h m → News h₀ L h ((I, oI) :: (C, oC) :: (D, lst ys) :: nw) → Off3 I C D nw → ((@Ne Nat I C) ∧ (@Ne Nat I D) ∧ (@Ne Nat C D)) →
      wpAny (model prog w) A (isTrue ct (compEnvC scope cl C env) (eval ct (compEnvC scope cl C env))) (fun ok s' => if ok = true then
        wpAny (model prog w) A (eval elt (compEnvC scope cl C env)) (CompEnd h₀ L m { s with heap := h, toks := tk } I oI C oC D (lst ys) S (fun y news' => K (i + 1) (ys ++ [y]) news')) E' s'
        else CompEnd h₀ L m { s with heap := h, toks := tk } I oI C oC D (lst ys) S (fun _ news' => K (i + 1) ys news') Value.none s') E' { s with heap := h, toks := tk })
    (k0 : K 0 [] news) (fin : ∀ ys nw, K n ys nw → Fin ys nw) : CompRestT prog w A h₀ L m env ct elt x scope cl s S P Fin n 0 [] news := by
  have go : ∀ k i ys nw, i + k = n → K i ys nw → CompRestT prog w A h₀ L m env ct elt x scope cl s S P Fin k i ys nw := by
    intro k
    induction k with
    | zero =>
      intro i ys nw e hK
      have : i = n := by omega
      subst this
      exact CompRestT.zero (fin _ _ hK)
    | succ k ih =>
      intro i ys nw e hK
      refine CompRestT.succ fun v I oI C oC D m₂ h tk E' hv hC hx F N off ne => ?_
      refine wpAny_mono (elem i ys nw v I oI C oC D m₂ h tk E' (by omega) hK hv hC hx F N off ne) (fun ok s' c => ?_) fun _ _ e => e
      cases ok with
      | true =>
        rw [if_pos rfl] at c ⊢
        exact wpAny_mono c (fun y s' c => compEnd_mono (fun nw' r => ih _ _ _ (by omega) r) c) fun _ _ e => e
      | false =>
        rw [if_neg Bool.false_ne_true] at c ⊢
        exact compEnd_mono (fun nw' r => ih _ _ _ (by omega) r) c
  exact go n 0 [] news (by omega) k0
end
section
open LCg LCt
variable {prog : Program} {w : World} {A : Around} {s : Shared} {h₀ : Heap} {L : Addr} {m : Str → Option Value} {env : Env}
theorem compRest_ints {elt : Expr} {x : Str} {scope : Scope} {cl : List (Str × Addr)} {S : Led → Prop} {P : Nat → Value → Prop} {Fin : List Value → Led → Prop} {n : Nat} (f : Nat → Int) {news : Led}
    (elem : ∀ i ys v I oI C oC D m₂ h tk (E' : Value → Shared → Prop), i < n → P i v → NsObj oC m₂ → m₂ x = some v → Fr h₀ L h m → News h₀ L h ((I, oI) :: (C, oC) :: (D, lst ys) :: news) → Off3 I C D news → ((@Ne Nat I C) ∧ (@Ne Nat I D) ∧ (@Ne Nat C D)) →
      wpAny (model prog w) A (eval elt (compEnvC scope cl C env)) (CompEnd h₀ L m { s with heap := h, toks := tk } I oI C oC D (lst ys) S (fun y news' => (∃ t, y = .int (f i) t) ∧ news' = news)) E' { s with heap := h, toks := tk })
    (fin : ∀ ys, IntsAre ys ((List.range n).map f) → Fin ys news) : CompRest prog w A h₀ L m env elt x scope cl s S P Fin n 0 [] news := by
  refine compRest_each (fun i ys nw => nw = news ∧ IntsAre ys ((List.range i).map f)) (fun i ys nw v I oI C oC D m₂ h tk E' hi k hv hC hx F N off ne => ?_) ⟨rfl, .nil⟩ (fun ys nw k => by obtain ⟨rfl, k⟩ := k; exact fin ys k)
  obtain ⟨rfl, k⟩ := k
  refine wpAny_mono (elem i ys v I oI C oC D m₂ h tk E' hi hv hC hx F N off ne) (fun y s' c => compEnd_mono (fun nw' r => ?_) c) fun _ _ e => e
  obtain ⟨⟨t, rfl⟩, rfl⟩ := r
  refine ⟨rfl, ?_⟩
  rw [List.range_succ, List.map_append]
  exact k.append (.cons _ _ .nil)
theorem compRestT_none {ct elt : Expr} {x : Str} {scope : Scope} {cl : List (Str × Addr)} {S : Led → Prop} {P : Nat → Value → Prop} {Fin : List Value → Led → Prop} {n : Nat} {news : Led}
    (elem : ∀ i v I oI C oC D m₂ h tk (E' : Value → Shared → Prop), i < n → P i v → NsObj oC m₂ → m₂ x = some v → Fr h₀ L h m → News h₀ L h ((I, oI) :: (C, oC) :: (D, lst []) :: news) → Off3 I C D news → ((@Ne Nat I C) ∧ (@Ne Nat I D) ∧ (@Ne Nat C D)) →
      wpAny (model prog w) A (isTrue ct (compEnvC scope cl C env) (eval ct (compEnvC scope cl C env))) (fun ok s' => if ok = true then False
        else CompEnd h₀ L m { s with heap := h, toks := tk } I oI C oC D (lst []) S (fun _ news' => news' = news) Value.none s') E' { s with heap := h, toks := tk })
    (fin : Fin [] news) : CompRestT prog w A h₀ L m env ct elt x scope cl s S P Fin n 0 [] news := by
  refine compRestT_each (fun i ys nw => nw = news ∧ ys = []) (fun i ys nw v I oI C oC D m₂ h tk E' hi k hv hC hx F N off ne => ?_) ⟨rfl, rfl⟩ (fun ys nw k => by obtain ⟨rfl, rfl⟩ := k; exact fin)
  obtain ⟨rfl, rfl⟩ := k
  refine wpAny_mono (elem i v I oI C oC D m₂ h tk E' hi hv hC hx F N off ne) (fun ok s' c => ?_) fun _ _ e => e
  cases ok with
  | true => rw [if_pos rfl] at c; exact c.elim
  | false =>
    rw [if_neg Bool.false_ne_true] at c ⊢
    exact compEnd_mono (fun nw' r => ⟨r, rfl⟩) c
theorem ints_get {ys : List Value} {ns : List Int} {i : Nat} {v : Value} (h : IntsAre ys ns) (e : ys.toArray[i]? = some v) : ∃ n t, v = .int n t := by
  have e' : ys[i]? = some v := by simpa using e
  clear e
  induction h generalizing i with
  | nil => simp at e'
  | cons n t _ ih =>
    cases i with
    | zero => exact ⟨n, t, by simpa using e'.symm⟩
    | succ i => exact ih (by simpa using e')
end

section
variable {prog : Program} {w : World} {A : Around} {E : Value → Shared → Prop} {s : Shared} {env : Env} {h₀ : Heap} {target : Expr} {body : List Stmt} {Q : Flow → Shared → Prop}
theorem vals_inv {I : Addr} {nm : String} {keep : Led} (J : AL → (Str → Option Value) → Led → Prop)
    (turn : ∀ k n r m news, J ((k, n) :: r) m news → ∀ u h tk o, o.cls = .type nm → Fr h₀ env.locals h m → News h₀ env.locals h ((I, o) :: news) →
      wpAny (model prog w) A (assign target env (.int n u)) (fun _ s₂ => wpAny (model prog w) A (execs body env) (UnrPostW h₀ env.locals { s with heap := h, toks := tk } [(I, o)] (fun m' n' => SubL keep n' ∧ J r m' n') Q) E s₂) E { s with heap := h, toks := tk })
    (done : ∀ m news, J [] m news → ∀ h tk, Fr h₀ env.locals h m → News h₀ env.locals h news → Q .next { s with heap := h, toks := tk }) :
    ∀ (c : AL) m news, J c m news → ItemsRest prog w A E h₀ env target body Q s [(I, nm)] keep ((kdpD c).map fun p => Itm.flat p.2) m news
  | [], m, news, j => done m news j
  | (k, n) :: c, m, news, j => by
    refine ItemsRest.flat fun v h tk hx F => AllObj.cons fun o ho => AllObj.nil fun N => ?_
    obtain ⟨u, rfl⟩ := PyProof.V.Flat.int_inv hx
    refine wpAny_mono (turn k n c m news j u h tk o ho F N) (fun _ s₂ h₂ => wpAny_mono h₂ (fun f s₃ h₃ => ?_) fun _ _ e => e) fun _ _ e => e
    exact unrPostW_mono (fun m' n' x => ⟨x.1, vals_inv J turn done c m' n' x.2⟩) h₃
theorem for_values {name : Str} {scope : Scope} {L a : Addr} {cd : Value} {x v : Str} {vp p1 p2 p3 pos : Pos} {d : Addr} {od : Obj} {c : AL} {m₀ : Str → Option Value} {news : Led} (J : Led → (Str → Option Value) → AL → (Str → Option Value) → Led → Prop) (F : Fr h₀ L s.heap m₀) (N : News h₀ L s.heap news)
    (hx : m₀ x = some (.ref d)) (T : StrTab prog w s.heap d (kdpD c)) (hm : (d, od) ∈ news) (hh : A.handled = none) (j : J news m₀ c m₀ news)
    (hk : scope.kind = .function) (hl : (envOf name scope L a cd).kindOf x = some .local) (hd : (x == ("__debug__" : Str)) = false) (hE : PassesOwn (model prog w) A (envOf name scope L a cd) E) {pl : Sem Bool}
    (he : eval (.Call (.Attribute (.Name x p1) (Str.ofString "values") p2) [] [] p3) (envOf name scope L a cd) = (do
      let ov ← eval (.Name x p1) (envOf name scope L a cd)
      standAt p2.atName
      let (f, first) ← holding [ov] (getMethod ov (Str.ofString "values") pl)
      callWith p3 f first (backTo p3 (starEach [] (envOf name scope L a cd))) []))
    (turn : ∀ k n r m nw, J news m₀ ((k, n) :: r) m nw → ∀ I u h tk o, (∀ p ∈ news, p.1 < I) → o.cls = .type "dict_valueiterator" → Fr h₀ L h m → News h₀ L h ((I, o) :: nw) →
      wpAny (model prog w) A (assign (.Name v vp) (envOf name scope L a cd) (.int n u)) (fun _ s₂ => wpAny (model prog w) A (execs body (envOf name scope L a cd)) (UnrPostW h₀ L { s with heap := h, toks := tk } [(I, o)] (fun m' n' => SubL [(d, od)] n' ∧ J news m₀ r m' n') Q) E s₂) E { s with heap := h, toks := tk })
    (done : ∀ m nw, J news m₀ [] m nw → ∀ h tk, Fr h₀ L h m → News h₀ L h nw → Q .next { s with heap := h, toks := tk }) :
    wpAny (model prog w) A (exec (.For (.Name v vp) (.Call (.Attribute (.Name x p1) (Str.ofString "values") p2) [] [] p3) body [] pos) (envOf name scope L a cd)) Q E s := by
  refine For_turns (env := envOf name scope L a cd) (h₀ := h₀) F ?_ (by intro _; rfl) hE
  refine MethodCall_ ?_ he
  refine ld F hx ?_ hk hl hd
  refine getMethod_tab (knd := PySem.strKind _ _) (enc := PyData.str) PySem.F.slot_dict_values PySem.F.type_dict_values T ?_
  refine callWith_method0 ?_
  refine call_values_tab (knd := PySem.strKind _ _) (enc := PyData.str) T F N ?_
  intro h' o' hv' F' N'
  have N' := kti_tail N'
  have T' : StrTab prog w h' d (kdpD c) := by
    obtain ⟨lo, kvs, ⟨o, es, ep, ho, r⟩, hf⟩ := T
    have e1 := (N _ hm).1
    rw [e1] at ho
    cases ho
    exact ⟨lo, kvs, ⟨_, es, ep, (N' _ hm).1, r⟩, hf⟩
  exact kti_vals (env := envOf name scope L a cd) (knd := PySem.strKind _ _) (enc := PyData.str) hh F' N' hv' T' hm rfl fun I l1 => vals_inv (s := { s with heap := h' }) (env := envOf name scope L a cd) (J news m₀) (fun k n r m nw x u h tk o ho F N => turn k n r m nw x I u h tk o l1 ho F N) done c m₀ news j
end
noncomputable def OutI (n : Int) (new : Led) (v : Value) : Prop := new = [] ∧ ∃ t, v = .int n t
noncomputable def tot (c : AL) : Int := (c.map (·.2)).sum
inductive JTot (goal : Int) (news₀ : Led) (m₀ : Str → Option Value) (r : AL) (m : Str → Option Value) (nw : Led) : Prop
  | mk (q : Str → Option Value) (a : Int) (t : Tok) (_ : m = (fun y => if y = Str.ofString "nc" then some (.int a t) else if y = Str.ofString "calls" then q y else m₀ y)) (_ : nw = news₀) (_ : a + tot r = goal) : JTot goal news₀ m₀ r m nw
theorem JTot.on {P : (Str → Option Value) → Led → Prop} {goal : Int} {news₀ : Led} {m₀ : Str → Option Value} {r : AL} {m : Str → Option Value} {nw : Led} (h : JTot goal news₀ m₀ r m nw)
    (kk : ∀ (q : Str → Option Value) (a : Int) (t : Tok), (a + tot r = goal) → P (fun y => if y = Str.ofString "nc" then some (.int a t) else if y = Str.ofString "calls" then q y else m₀ y) (news₀)) : P m nw := by
  obtain ⟨q, a, t, rfl, rfl, h1⟩ := h
  exact kk q a t h1
theorem names3 {m₀ : Str → Option Value} {x : Option Value} (a b : Str) : (fun y => if y = b then x else m₀ y) = (fun y => if y = b then x else if y = a then (fun y => if y = b then x else m₀ y) y else (fun y => if y = b then x else m₀ y) y) := by
  funext y
  by_cases h : y = b <;> simp [h]
theorem names3' {m₀ q : Str → Option Value} {x y z : Option Value} (a b : Str) : (fun y' => if y' = b then x else if y' = a then y else if y' = b then z else if y' = a then q y' else m₀ y') = fun y' => if y' = b then x else if y' = a then (fun _ => y) y' else m₀ y' := by
  funext y'
  by_cases h : y' = b
  · simp [h]
  · by_cases h2 : y' = a <;> simp [h, h2]
section
local macro_rules | `(tactic| walk_at "exec For Name Call cons nil") => `(tactic| (k_here; refine hold_in ?_))
local macro_rules | `(tactic| walk_at "exec For Name Call") => `(tactic| (k_here; refine hold_in ?_))
theorem c_count (w : World) (news : Led) (t : Addr) (ot : Obj) (ct : AL) (hl1 : (t, ot) ∈ news) (ht : DI w t ot ct) : Con w 28 news [.ref t] 1 (OutI (tot ct)) := by
  have hs := sub_one hl1
  clear hl1
  refine foldP fun G hG => ?_
  obtain ⟨lot, kt, hdt, hft⟩ := ht
  refine hG ?_
  clear hG G
  walk_at "BODY"
  refine Hold.out ?_
  (rename Fr _ _ _ _ => lF); (rename News _ _ _ _ => lN)
  k_dflt (refine' for_values (JTot (tot ct)) ?F ?N ?hx ?T ?hm ?hh ?j ?h1 ?h2 ?h3 ?hE ?he ?turn ?done)
  case F => exact lF
  case N => exact lN
  case hx => rfl
  case hm => k_mem
  case T => k_tabat
  case hh => rfl
  case j => exact ⟨_, 0, _, names3 _ _, rfl, by simp⟩
  case h1 => rfl
  case h2 => rfl
  case h3 => decide
  case he => with_unfolding_all rfl
  case hE => passes_own
  case turn =>
    clear lF lN
    intro k n r m nw hJ
    apply hJ.on
    clear hJ
    intro q a u' hg I u h tk oI l1 hI F N
    have hg : (a + n) + tot r = tot ct := by rw [← hg]; simp only [tot, List.map_cons, List.sum_cons]; omega
    k_lt l1
    (try dsimp only)
    (try walk_at "FOLD")
    k_steps
    exact ⟨_, _, _, names3' _ _, rfl, hg⟩
  case done =>
    clear lF lN
    intro m nw hJ
    apply hJ.on
    clear hJ
    intro q a u' hg h tk F N
    have hg : a = tot ct := by rw [← hg]; simp [tot]
    subst hg
    (try dsimp only)
    (try walk_at "FOLD")
    k_steps
    exact endP_flat ⟨rfl, _, rfl⟩
end

noncomputable def Pl.isSkip : Pl → Bool
  | .no => true
  | .tx a => decide (a = EM)
  | _ => false
theorem skip_iff : ∀ {p : Pl}, p.dat ∈ [Dat.none, Dat.str (Str.ofString "")] ↔ p.isSkip = true
  | .no => ⟨fun _ => rfl, fun _ => List.mem_cons_self ..⟩
  | .seven => ⟨fun h => by simp [Pl.dat] at h, fun h => nomatch h⟩
  | .tx a => by
    simp only [Pl.dat, Pl.isSkip, List.mem_cons, List.not_mem_nil, or_false, decide_eq_true_eq]
    exact ⟨fun h => h.elim (fun e => nomatch e) fun e => Dat.str.inj e, fun e => .inr (congrArg Dat.str e)⟩
theorem sg_7 {p q : Pl} (h : (p.isSeven || q.isSeven) = true) : signsOf [p, q] = [] := if_pos h
theorem sign_skip : ∀ {p : Pl}, p.isSeven = false → p.isSign = !p.isSkip
  | .no, _ | .tx _, _ => rfl
theorem sg_n {p q : Pl} (h : (p.isSeven || q.isSeven) = false) : signsOf [p, q] = (bif p.isSkip then [] else [p]) ++ (bif q.isSkip then [] else [q]) := by
  obtain ⟨h1, h2⟩ := Bool.or_eq_false_iff.mp h
  have e : signsOf [p, q] = [p, q].filter Pl.isSign := by
    show (if (p.isSeven || q.isSeven) = true then [] else [p, q].filter Pl.isSign) = _
    rw [h]; rfl
  rw [e, List.filter_cons, List.filter_cons, List.filter_nil, sign_skip h1, sign_skip h2]
  cases p.isSkip <;> cases q.isSkip <;> rfl
section
local macro_rules | `(tactic| walk_at "IFF") => `(tactic| first | exact seven_iff | exact skip_iff)
theorem c_signs1 (w : World) (news : Led) (l n : Nat) (v : Value) (hl : (l, listOf [v].toArray n) ∈ news) : Con w 71 news [.ref l] 1 (OutL []) := by
  have hs := sub_one hl
  clear hl
  walk_at "BODY"
  refine endP_list (vs := []) _ (List.mem_cons_self ..) rfl ?_ flAll_nil; walk_at "OFF"
theorem c_signs3 (w : World) (news : Led) (l n : Nat) (v v2 v3 : Value) (hl : (l, listOf [v, v2, v3].toArray n) ∈ news) : Con w 71 news [.ref l] 1 (OutL []) := by
  have hs := sub_one hl
  clear hl
  walk_at "BODY"
  refine endP_list (vs := []) _ (List.mem_cons_self ..) rfl ?_ flAll_nil; walk_at "OFF"
theorem c_signs2 (w : World) (news : Led) (l n : Nat) (v v2 : Value) (p q : Pl) (hp : p.Ok) (hq : q.Ok) (hv : FlIn v p) (hv2 : FlIn v2 q) (hl : (l, listOf [v, v2].toArray n) ∈ news) :
    Con w 71 news [.ref l] 1 (OutL (signsOf [p, q])) := by
  have hs := sub_one hl
  clear hl
  walk_at "BODY"
  · rename (_ || _) = true => h7
    rw [sg_7 h7]
    refine endP_list (vs := []) _ (List.mem_cons_self ..) rfl ?_ flAll_nil; walk_at "OFF"
  all_goals
    rename (p.isSeven || q.isSeven) = false => h7
    rename p.isSkip = _ => h1
    rename q.isSkip = _ => h2
    rw [sg_n h7, h1, h2]
    first
    | (refine endP_list (vs := []) _ (List.mem_cons_self ..) rfl ?_ flAll_nil; walk_at "OFF")
    | (refine endP_list (vs := [v2]) _ (List.mem_cons_self ..) rfl ?_ (flAll_cons hv2 flAll_nil); walk_at "OFF")
    | (refine endP_list (vs := [v]) _ (List.mem_cons_self ..) rfl ?_ (flAll_cons hv flAll_nil); walk_at "OFF")
    | (refine endP_list (vs := [v, v2]) _ (List.mem_cons_self ..) rfl ?_ (flAll_cons hv (flAll_cons hv2 flAll_nil)); walk_at "OFF")
end

section
local macro_rules | `(tactic| walk_at "CompSrc") => `(tactic| (k_here; k_dflt (refine LCg.CompSrc.ledger (by rfl) (by k_asm) (by k_asm) (by k_mem) (by first | size_fits | exact Nat.le_of_ble_eq_true rfl) ?_; intro g'; lcg_lit)))
local macro_rules | `(tactic| walk_at "CompRest") => `(tactic| (with_unfolding_all first
  | (refine LCg.CompRest.succ ?_; intro v' I' oI' C' oC' D' m' h' tk' E' hv' hC' hx' F' N' off' ne'; (first | lcg_open hv' | (obtain ⟨t9', hv9'⟩ := hv'; subst hv9')); (try simp only [LCg.Off3, and_true] at off'))
  | refine LCg.CompRest.zero ?_))
local macro_rules | `(tactic| walk_at "exec Assign cons ListComp") => `(tactic| (k_here; lcf_look; k_dflt (refine LCg.Assign_ListComp_U (F₀ := by k_asm) (by rfl) (by with_unfolding_all rfl) (by with_unfolding_all rfl) (by decide) (by rfl) (by decide) (by rfl) (by rfl) (by rfl) ?_); k_dflt lcg_toSrc))
local macro_rules | `(tactic| walk_at "eval IfExp") => `(tactic| (k_here; (with_reducible show wpAny _ _ (eval (Expr.IfExp _ _ _ _) (compEnvC _ _ _ _)) _ _ _); (fail_if_success (with_reducible show wpAny _ _ _ _ (fun _ _ => False) _)); (refine cutV (y := Str.ofString "figure") (by with_reducible assumption) (fun g' d' t' os' => ?_) (fun v' tk' hv' => ?_)); (try dsimp only)))
local macro_rules | `(tactic| walk_at "call builtin:list.append") => `(tactic| (k_here; (try dsimp only); (show wpAny _ _ (call (Value.builtin "list.append") [Value.ref _, _]) _ _ _); k_dflt (refine append_K (by k_asm) (by k_asm) (by k_upd) ?_ (by size_fits)); intro h' F' N'; (try k_sweep)))
local macro_rules | `(tactic| walk_at "setItem ref int") => `(tactic| (k_here; (try dsimp only); (refine setItem_two (mod2_01 _) (fun e' => ?_) (fun e' => ?_))))
local macro_rules | `(tactic| walk_at "FL") => `(tactic| first
  | exact flAll_nil
  | (refine flAll_cons ?_ ?_; (first | exact flIn_seven _ | exact flIn_str _ _ | assumption); walk_at "FL"))
theorem c_places (w : World) (news : Led) (x : Int) (tx : Tok) : Con w 54 news [.int x tx] 1 (OutL (placesOf x)) := by
  have hs : ∀ p ∈ ([] : Led), p ∈ news := by simp
  walk_at "BODYC"
  all_goals first
    | exact flIn_no (by assumption)
    | exact flIn_sg (by assumption)
    | (first | rw [pl_0 (by assumption) (by assumption)] | rw [pl_1 (by assumption) (by assumption)] | rw [pl_2 (by assumption) (by assumption) (by assumption)] | rw [pl_3 (by assumption) (by assumption) (by assumption)] | rw [pl_4 (by assumption)] | rw [pl_5 (by assumption)] | rw [pl_6 (by assumption) (by assumption) (by assumption)])
  all_goals (refine endP_list _ (List.mem_cons_self ..) rfl ?_ ?_; (intro r hr; cases hr); walk_at "FL")
end

/-- an exception that a def's own frame made, on its way: all its fields are known -/
structure Fl (B : Heap) (l : List Env) (e : Addr) (X : String) (h : Heap) : Prop where
  stays : B.StaysIn h
  fresh : B.get? e = none
  ff : h.FunFrames B l
  there : ∃ oe t T oT ts, h.get? e = some oe ∧ oe.cls = .type X ∧ oe.data = .fields #[t, .ref T, .none, .none, .bool false, .none] ∧ B.get? T = none ∧ T ≠ e ∧ h.get? T = some oT ∧ oT.data = .fields ts ∧ 3 < ts.size
section
variable {M : Model} {A : Around} {E : Value → Shared → Prop} {s : Shared} {B : Heap} {env : Env} {outer : List Env} {L e : Addr} {X : String} {Q : Unit → Shared → Prop}
theorem Fl.keeps {l : List Env} {h h' : Heap} (R : Fl B l e X h) (k : ∀ b o, h.get? b = some o → h'.get? b = some o) : Fl B l e X h' := by
  obtain ⟨oe, t, T, oT, ts, he, hc, hd, hT0, hTe, hT, hdT, hz⟩ := R.there
  exact ⟨fun b o q => k b o (R.stays b o q), R.fresh, R.ff.of_keeps fun b o q _ => ⟨o, k b o q, rfl⟩, oe, t, T, oT, ts, k _ _ he, hc, hd, hT0, hTe, k _ _ hT, hdT, hz⟩
theorem fl_note {oe : Obj} {t : Value} (hfr : A.frames = some (env :: outer)) (hl : s.heap.FunFrames B (env :: outer)) (hf : env.frame = some L) (hkb : B.StaysIn s.heap) (hen : B.get? e = none)
    (he : s.heap.get? e = some oe) (hc : oe.cls = .type X) (hd : oe.data = .fields #[t, .none, .none, .none, .bool false, .none]) (h : ∀ h', Fl B (env :: outer) e X h' → s.heap.UpToSlots h' → Q () { s with heap := h' }) :
    wpAny M A (noteFrame (.ref e) env) Q E s := by
  have hno : e ∉ (env :: outer).filterMap (·.frame) := fun hm => by
    obtain ⟨_, o, ho, hnf⟩ := hl.mem hm
    rw [he] at ho
    obtain rfl := Option.some.inj ho
    exact hnf _ hd
  unfold noteFrame
  simp only [hf]
  refine wpAny_bind (wpAny_field he hd (x := .none) rfl ?_)
  rw [if_neg (by decide)]
  refine wpAny_bind (wpAny_frameOf_fun hfr hl hf fun h₁ hs => wpAny_bind (wpAny_entryPlaceOf fun pl hpl => ?_))
  have he₁ : h₁.get? e = some oe := (hs.2.1 e hno).trans he
  have kb₁ : B.StaysIn h₁ := fun b o hb => (hs.2.1 b fun hm => by rw [(hl.mem hm).1] at hb; cases hb).trans (hkb b o hb)
  unfold EntryCells.newEntry newFields
  refine wpAny_bind (wpAny_newObj_type ?_ (hpl.sizeOk5 _ _ _ _ _))
  generalize hob : ({ cls := .type "traceback", dict := none, data := .fields _ } : Obj) = ob
  have hobd : ∃ ts, ob.data = .fields ts ∧ 3 < ts.size := by
    subst hob
    exact ⟨_, rfl, by first | (simp; done) | (simp only [List.size_toArray, List.length_append, List.length_cons, List.length_nil]; omega)⟩
  obtain ⟨ts, hts, hz⟩ := hobd
  have he₂ := Heap.get?_push_of_some (h := h₁) ob he₁
  refine wpAny_setField he₂ hd (by simp) (h _ ?_ ?_)
  all_goals
    have hTe : h₁.objs.size ≠ e := Nat.ne_of_gt (Heap.lt_size he₁)
    have hd₃ := Obj.data_mapFields hd (·.setIfInBounds 1 (Value.ref h₁.objs.size))
    have he₃ := Heap.get?_update_self (Obj.mapFields (·.setIfInBounds 1 (Value.ref h₁.objs.size))) he₂ (Obj.isFreed_of_fields hd₃)
    have hT₃ := (Heap.get?_update_other (h₁.push ob) (Obj.mapFields (·.setIfInBounds 1 (Value.ref h₁.objs.size))) (Ne.symm hTe)).trans (Heap.get?_push_size h₁ (Obj.isFreed_of_fields hts))
    have kp : ∀ b o, b ≠ e → h₁.get? b = some o → ((h₁.push ob).update e (Obj.mapFields (·.setIfInBounds 1 (Value.ref h₁.objs.size)))).get? b = some o := fun b o hne hb => by
      rw [Heap.get?_update_other _ _ (Ne.symm hne)]
      exact Heap.get?_push_of_some _ hb
    have ne : ∀ b o, s.heap.get? b = some o → (∀ vs, o.data ≠ .fields vs) → b ≠ e := fun b o hb hnf q => by
      rw [q, he] at hb
      obtain rfl := Option.some.inj hb
      exact hnf _ hd
  · refine ⟨fun b o hb => kp b o (fun q => by rw [q, hen] at hb; cases hb) (kb₁ b o hb), hen, hl.of_keeps fun b o hb hnf => ?_, ?_⟩
    · obtain ⟨sl, hs'⟩ := hs.2.2 b o hb
      exact ⟨_, kp b _ (ne b o hb hnf) hs', rfl⟩
    · exact ⟨_, t, h₁.objs.size, ob, ts, he₃, (Obj.cls_mapFields _ _).trans hc, hd₃, kb₁.fresh, hTe, hT₃, hts, hz⟩
  · intro b o hb hnf
    obtain ⟨sl, hs'⟩ := hs.2.2 b o hb
    exact ⟨sl, kp b _ (ne b o hb hnf) hs'⟩
theorem fl_flight {l : List Env} (R : Fl B l e X s.heap) (h : ∀ h', Fl B l e X h' → s.heap.UpToSlots h' → Q () { s with heap := h' }) : wpAny M A (setFlight (.ref e) none) Q E s := by
  obtain ⟨oe, t, T, oT, ts, he, hc, hd, hT0, hTe, hT, hdT, hz⟩ := R.there
  unfold setFlight
  refine wpAny_bind (wpAny_field he hd (x := .ref T) rfl ?_)
  rw [if_pos (show (Value.ref T != Value.none) = true from by simp)]
  refine wpAny_setField hT hdT hz (h _ ?_ ?_)
  all_goals
    have kp : ∀ b o, b ≠ T → s.heap.get? b = some o → (s.heap.update T (Obj.mapFields (·.setIfInBounds 3 ((none : Option Addr).elim Value.none fun f => rawInt f)))).get? b = some o := fun b o hne hb =>
      (Heap.get?_update_other _ _ (Ne.symm hne)).trans hb
    have ne : ∀ b o, s.heap.get? b = some o → (∀ vs, o.data ≠ .fields vs) → b ≠ T := fun b o hb hnf q => by
      rw [q, hT] at hb
      obtain rfl := Option.some.inj hb
      exact hnf _ hdT
  · refine ⟨fun b o hb => kp b o (fun q => by rw [q, hT0] at hb; cases hb) (R.stays b o hb), R.fresh, R.ff.of_keeps fun b o hb hnf => ⟨o, kp b o (ne b o hb hnf) hb, rfl⟩, oe, t, T, _, _, kp e oe (Ne.symm hTe) he, hc, hd, hT0, hTe,
      Heap.get?_update_self _ hT (Obj.isFreed_of_fields (Obj.data_mapFields hdT _)), Obj.data_mapFields hdT _, by simp [hz]⟩
  · exact fun b o hb hnf => ⟨o.slots, kp b o (ne b o hb hnf) hb⟩
end
section
variable {prog : Program} {w : World} {A₀ A : Around} {E : Value → Shared → Prop} {s s' : Shared} {base g G B : Heap} {outer : List Env} {L a e : Addr} {m : Str → Option Value} {name : Str} {scope : Scope} {cd : Value} {X : String}
  {b₀ : Stmt} {suite : List Stmt} {pos : Pos} {Q : Flow → Shared → Prop} {KF : Frag} {tt : Expr} {p : Program} {loose : List Str} {mean : ExcName → Option Value} {mg mb : Str → Option Value}
theorem fl_looks {M : Model} {l : List Env} {h : Heap} (R : Fl B l e X h) : Looks M h (typeOf (.ref e)) (.type X) := by
  obtain ⟨oe, _, _, _, _, he, hc, _⟩ := R.there
  rw [← hc]
  exact (Looks.ld he).andThen .now
/-- the handler that takes it -/
theorem fl_handle (R : Fl B (envOf name scope L a cd :: outer) e X s'.heap) (hBG : ∀ b o, G.get? b = some o → b ∉ (envOf name scope L a cd :: outer).filterMap (·.frame) → B.get? b = some o) (F : Fr g L G m) (K : Below A₀ base outer g) (hsm : G.UpToSlots s'.heap) (XB : KF.In base) (TB : Top p loose mean mg mb base)
    (T : KtsTest prog w KF p loose mg mb name scope L a cd (.type X) tt true)
    (k : ∀ h' g', Fr g' L h' m → Below A₀ base outer g' → KF.In g' → Top p loose mean mg mb g' → Fl B (envOf name scope L a cd :: outer) e X h' → G.UpToSlots h' →
      wpAny (model prog w) ((A₀.deeper (envOf name scope L a cd)).mark (some (.ref e))) (execs (b₀ :: suite) (envOf name scope L a cd)) Q E { s' with heap := h' })
    (hE : PassesOwnAt (model prog w) ((A₀.deeper (envOf name scope L a cd)).mark (some (.ref e))) (A₀.deeper (envOf name scope L a cd)) (envOf name scope L a cd) E := by passes_own) :
    wpAny (model prog w) (A₀.deeper (envOf name scope L a cd)) (handleBy (.ref e) (envOf name scope L a cd) [.ExceptHandler (some tt) none (b₀ :: suite) pos]) Q E s' := by
  obtain ⟨g₅, T₅, F₅, K₅⟩ := kts_ground K F hBG R.stays hsm
  refine wpAny_handleBy_cons (codeAny_handlers_test (T _ _ _ _ g₅ e m F₅ (XB.keeps K₅.stays) (topRead_of (TB.keeps K₅.stays)) (fl_looks R) fun h₅ kp => ?_)) (by intro q; cases q)
  have R₅ := R.keeps kp
  refine codeAny_handlers_suite ?_
  refine fl_flight R₅ fun h₆ R₆ u₆ => ?_
  have hs₆ := (hsm.trans (Heap.UpToSlots.of_keeps kp)).trans u₆
  obtain ⟨g₆, T₆, F₆, K₆⟩ := kts_ground K F hBG R₆.stays hs₆
  exact wpAny_passesOwnAt hE (k h₆ g₆ F₆ K₆ (XB.keeps K₆.stays) (TB.keeps K₆.stays) R₆ hs₆)
theorem entry_unchain : entryFor table "proto.unchain" = some Builtin.«proto.unchain» := entryFor_of_tree (by kernel_rfl)
theorem unchain_none {v h : Value} {oe : Obj} {vs : Array Value} {a : Addr} {Q : Value → Shared → Prop} (he : s.heap.get? a = some oe) (hd : oe.data = .fields vs) (h2 : vs[2]? = some .none) (hq : Q .none s) :
    wpAny (model prog w) A (runValue (.builtin "proto.unchain" ⟨[v, .ref a, h, .bool false], []⟩)) Q E s := by
  refine wpAny_runValue (codeAny_builtin entry_unchain ?_)
  unfold Builtin.«proto.unchain»
  refine wpAny_bind (wpAny_field he hd h2 ?_)
  exact wpAny_pure hq
/-- what is left behind by «raise TypeError(words) from None» in a handler -/
noncomputable def RaisedFrom (s : Shared) (e1 : Addr) (msg : Str) (E : Value → Shared → Prop) : Prop :=
  ∀ (h' : Heap) (e t : Addr) (u : Tok) (tk : Nat), (∀ b o, s.heap.get? b = some o → h'.get? b = some o) → s.heap.get? e = none → s.heap.get? t = none →
    h'.get? e = some { cls := .type "TypeError", data := .fields #[.ref t, .none, .ref e1, .none, .bool true, .none] } → h'.get? t = some { cls := .type "tuple", data := .seq (List.toArray [.str msg u]) } → E (.ref e) { s with heap := h', toks := tk }
theorem raise_from {env : Env} {e1 : Addr} {oe : Obj} {vs : Array Value} {x : Str} {np cp np2 cpos pos : Pos} {ck ck2 : Nat} {msg : Str} (hh : A.handled = some (.ref e1)) (he : s.heap.get? e1 = some oe) (hd : oe.data = .fields vs) (h2 : vs[2]? = some .none)
    (hx : ∀ {Q : Value → Shared → Prop} {E : Value → Shared → Prop}, Q (.type "TypeError") s → wpAny (model prog w) A (eval (.Name x np) env) Q E s) (hE : RaisedFrom s e1 msg E) :
    wpAny (model prog w) A (exec (.Raise (some (.Call (.Name x np) [.Constant (.str msg) ck cp] [] cpos)) (some (.Constant .none ck2 np2)) pos) env) Q E s := by
  rw [arm_exec_Raise]
  refine wpAny_bind (wpAny_standAt ?_)
  simp only [evalOpt, Option.map]
  unfold raiseStmt
  refine wpAny_bind (wpAny_bind (wpAny_Call_ofName (hx ?_)))
  obtain ⟨hp, g, d, tk, os⟩ := s
  refine callWith_excType (by rfl) ?_
  refine Calls.evalArgs_plain (x := eval (.Constant (.str msg) ck cp) env) (rest := []) ?_
  refine Calls.spliced_cons (Calls.Constant_str (Calls.spliced_nil ?_))
  show wpAny (model prog w) A (call (.type "TypeError") [.str msg tk] []) _ _ ⟨hp, g, d, tk + 1, os⟩
  refine wpAny_call_exc F.excCall_TypeError fun h₁ e hm => ?_
  obtain ⟨t, het, htn, ht⟩ := hm.there
  refine wpAny_bind (wpAny_standAt (wpAny_pure ?_))
  refine wpAny_bind (wpAny_holding (wpAny_bind (wpAny_Constant_none (wpAny_bind (wpAny_standAt (wpAny_pure ?_))))))
  have F := F.excRaise_TypeError
  have hsub := F.isExc
  have hmeta := F.plainMeta
  repeat (first | with_reducible refine wpAny_loadPart het ?_ | ((fail_if_success (with_reducible show wpAny _ _ (setField _ _ _) _ _ _)); wp_step))
  have upd : ∀ {h : Heap} {vs : Array Value} (f : Array Value → Array Value), h.get? e = some { cls := .type "TypeError", data := .fields vs } → (h.update e (Obj.mapFields f)).get? e = some { cls := .type "TypeError", data := .fields (f vs) } := fun f q =>
    Heap.get?_update_self (Obj.mapFields f) q rfl
  have oth : ∀ {h : Heap} (f : Array Value → Array Value) {b : Addr}, b ≠ e → (h.update e (Obj.mapFields f)).get? b = h.get? b := fun f b q => Heap.get?_update_other _ _ (Ne.symm q)
  refine wpAny_setField het rfl (by simp) ?_
  have he3 := upd (·.setIfInBounds 3 Value.none) het
  refine wpAny_bind (wpAny_setField he3 rfl (by simp) ?_)
  have he4 := upd (·.setIfInBounds 4 (Value.bool true)) he3
  generalize hh₃ : h₁.update e (Obj.mapFields (·.setIfInBounds 3 Value.none)) = h₃ at he3 he4 ⊢
  generalize hh₄ : h₃.update e (Obj.mapFields (·.setIfInBounds 4 (Value.bool true))) = h₄ at he4 ⊢
  have he4 : h₄.get? e = some { cls := Value.type "TypeError", data := Data.fields #[Value.ref t, Value.none, Value.none, Value.none, Value.bool true, Value.none] } := he4
  repeat (first | with_reducible refine wpAny_loadPart he4 ?_ | ((fail_if_success (with_reducible show wpAny _ _ (setFlight _ _) _ _ _)); wp_step))
  have ne1 : e1 ≠ e := fun q => by
    have h1 : hp.get? e1 = some oe := he
    rw [q, hm.new] at h1
    cases h1
  unfold setFlight
  refine wpAny_bind (wpAny_field he4 rfl (x := .none) rfl ?_)
  rw [if_neg (by decide)]
  refine wpAny_pure ?_
  unfold raiseNew
  refine wpAny_bind (wpAny_handled ?_)
  rw [hh]
  dsimp only
  rw [if_pos (show (Value.ref e1 != Value.ref e) = true from by simpa using ne1)]
  have hk : ∀ b o, hp.get? b = some o → h₄.get? b = some o := fun b o hb => by
    have hbe : b ≠ e := fun q => by rw [q, hm.new] at hb; cases hb
    rw [← hh₄, oth _ hbe, ← hh₃, oth _ hbe]
    exact hm.keeps b o hb
  refine wpAny_bind (wpAny_holding (unchain_none (hk _ _ he) hd h2 ?_))
  refine wpAny_bind (show wpAny _ _ (setField (.ref e) 2 (.ref e1)) _ _ _ from wpAny_setField he4 rfl (by simp) ?_)
  have he5 := upd (·.setIfInBounds 2 (Value.ref e1)) he4
  refine wpAny_throw (hE _ e t tk (tk + 1) (fun b o hb => ?_) hm.new htn he5 ?_)
  · have hbe : b ≠ e := fun q => by
      have hb' : hp.get? b = some o := hb
      rw [q, hm.new] at hb'; cases hb'
    rw [oth _ hbe]
    exact hk b o hb
  · have hte : t ≠ e := fun q => by
      rw [q, het] at ht
      have q2 := congrArg Obj.cls (Option.some.inj ht)
      injection q2 with q3
      exact absurd q3 (by decide)
    rw [oth _ hte, ← hh₄, oth _ hte, ← hh₃, oth _ hte]
    exact ht
end
/-- leaving a def's frame with an exception of its own handler -/
theorem leave_own {prog : Program} {w : World} {A : Around} {E : Value → Shared → Prop} {s' : Shared} {base g B : Heap} {outer : List Env} {L a e t : Addr} {name : Str} {scope : Scope} {cd x1 x2 x3 x4 : Value} {msg : Str} {u : Tok} {led : Led} {Q : Unit → Shared → Prop}
    (hled : ∀ q ∈ led, B.get? q.1 = some q.2 ∧ g.get? q.1 = none ∧ base.get? q.1 = none) (K : Below A base outer g) (hst : B.StaysIn s'.heap) (hff : s'.heap.FunFrames B (envOf name scope L a cd :: outer)) (hen : B.get? e = none) (htn : B.get? t = none) (hB : base.StaysIn B) (hBg : ∀ b o, g.get? b = some o → b ∉ outer.filterMap (·.frame) → B.get? b = some o)
    (he : s'.heap.get? e = some { cls := .type "TypeError", data := .fields #[.ref t, .none, x1, x2, x3, x4] }) (ht : s'.heap.get? t = some { cls := .type "tuple", data := .seq (List.toArray [.str msg u]) }) (hup : g.UpToSlots s'.heap)
    (hQ : ∀ h', RaisedS base g outer e (.type "TypeError") t [.str msg u] led h' → g.UpToSlots h' → Q () { s' with heap := h' }) :
    wpAny (model prog w) (A.deeper (envOf name scope L a cd)) (leaving (envOf name scope L a cd) (.ref e)) Q E s' := by
  refine wpAny_leaving_firstW (a0 := .ref t) (Around.frames_deeper K.stack) hff rfl he hst hen rfl rfl rfl fun h' hL => ?_
  obtain ⟨k1, ⟨_, _, k2⟩, k3, k4⟩ := hL
  exact hQ h' ⟨⟨B, hB, hBg, hled, ⟨k1, hen, k2, k3⟩, htn⟩, Heap.TupAt.of_slots ⟨_, _, ht, rfl, rfl⟩ k4⟩ (hup.trans k4)
/-- an exception of the def's own body goes to its one handler, which raises TypeError(words) from None -/
theorem own_caught {prog : Program} {w : World} {A₀ : Around} {E Qe Ee : Value → Shared → Prop} {s' : Shared} {base g h : Heap} {outer : List Env} {L a e : Addr} {m : Str → Option Value} {name : Str} {scope : Scope} {cd : Value} {X : String} {Q : Flow → Shared → Prop} {KF : Frag} {tt : Expr}
    {p : Program} {loose : List Str} {mean : ExcName → Option Value} {mg mb : Str → Option Value} {hpos np cp np2 cpos pos : Pos} {ck ck2 : Nat} {msg : Str} {led : Led}
    (x : Heap.NewExc h s'.heap e X) (F : Fr g L h m) (N : News g L h led) (K : Below A₀ base outer g) (XB : KF.In base) (TB : Top p loose mean mg mb base) (hkf : scope.kind = .function)
    (T : KtsTest prog w KF p loose mg mb name scope L a cd (.type X) tt true)
    (ex : nsIn KF mainGlobals (Str.ofString "TypeError") = some none) (hv : bootBuiltins (Str.ofString "TypeError") = some (.type "TypeError")) (hn : Str.ofString "TypeError" ≠ "__name__") (hxk : (envOf name scope L a cd).kindOf (Str.ofString "TypeError") = some .globalImplicit)
    (hEd : ∀ e s, wpAny (model prog w) (A₀.deeper (envOf name scope L a cd)) (leaving (envOf name scope L a cd) e) (fun _ s'' => Qe e s'') Ee s → E e s)
    (hE : ∀ e, PassesOwnAt (model prog w) ((A₀.deeper (envOf name scope L a cd)).mark (some (.ref e))) (A₀.deeper (envOf name scope L a cd)) (envOf name scope L a cd) E)
    (hend : ∀ e t u h' tk, RaisedS base g outer e (.type "TypeError") t [.str msg u] led h' → g.UpToSlots h' → Qe (.ref e) { s' with heap := h', toks := tk }) :
    wpAny (model prog w) (A₀.deeper (envOf name scope L a cd)) (noteFrame (.ref e) (envOf name scope L a cd))
      (fun _ s₂ => wpAny (model prog w) (A₀.deeper (envOf name scope L a cd)) (setFlight (.ref e) none) (fun _ s₃ =>
        wpAny (model prog w) (A₀.deeper (envOf name scope L a cd)) (handleBy (.ref e) (envOf name scope L a cd) [.ExceptHandler (some tt) none [.Raise (some (.Call (.Name (Str.ofString "TypeError") np) [.Constant (.str msg) ck cp] [] cpos)) (some (.Constant .none ck2 np2)) pos] hpos]) Q E s₃) E s₂) E s' := by
  have K' := K.push (name := name) (a := a) (cd := cd) F hkf
  have hin : ∀ env ∈ (envOf name scope L a cd :: outer), ∀ b, env.frame = some b → b ∈ (envOf name scope L a cd :: outer).filterMap (·.frame) := fun env he b hb => List.mem_filterMap.mpr ⟨env, he, hb⟩
  have hff := funFrames_hide K'.frames hin
  have hBh : ∀ b o, (hideAll h ((envOf name scope L a cd :: outer).filterMap (·.frame))).get? b = some o → h.get? b = some o := fun b o q => of_hideAll _ q
  have hBG : ∀ b o, h.get? b = some o → b ∉ (envOf name scope L a cd :: outer).filterMap (·.frame) → (hideAll h ((envOf name scope L a cd :: outer).filterMap (·.frame))).get? b = some o := fun b o q nm => hideAll_get _ q nm
  have hB : base.StaysIn (hideAll h ((envOf name scope L a cd :: outer).filterMap (·.frame))) := fun b o q => hideAll_get _ (K'.stays b o q) fun hm => by
    rw [(K'.frames.mem hm).1] at q; cases q
  have hBg : ∀ b o, g.get? b = some o → b ∉ outer.filterMap (·.frame) → (hideAll h ((envOf name scope L a cd :: outer).filterMap (·.frame))).get? b = some o := fun b o q nm => hideAll_get _ (F.keep b o q) fun hm => by
    rcases kts_mem hm with z | z
    · rw [z, kts_self F] at q; cases q
    · exact nm z
  have hled : ∀ q ∈ led, (hideAll h ((envOf name scope L a cd :: outer).filterMap (·.frame))).get? q.1 = some q.2 ∧ g.get? q.1 = none ∧ base.get? q.1 = none := fun q hq => by
    refine ⟨hideAll_get _ (N q hq).1 fun hm => ?_, (N q hq).2.2, kts_none (fun b o z => K.stays b o z) (N q hq).2.2⟩
    rcases kts_mem hm with z | z
    · exact (N q hq).2.1 z
    · obtain ⟨_, o, ho, _⟩ := K.frames.mem z
      rw [(N q hq).2.2] at ho
      cases ho
  generalize hideAll h ((envOf name scope L a cd :: outer).filterMap (·.frame)) = B at hff hBh hBG hB hBg hled
  obtain ⟨oe, t₁, he, hc, hd⟩ := x.there
  refine fl_note (Around.frames_deeper K.stack) (hff.of_keeps fun b o q _ => ⟨o, x.keeps b o q, rfl⟩) rfl (fun b o q => x.keeps b o (hBh b o q)) (kts_none hBh x.new) he hc hd fun h₁ R₁ u₁ => ?_
  refine fl_flight R₁ fun h₂ R₂ u₂ => ?_
  refine fl_handle R₂ hBG F K (((Heap.UpToSlots.of_keeps x.keeps).trans u₁).trans u₂) XB TB T (fun h₃ g₃ F₃ K₃ X₃ P₃ R₃ u₃ => ?_) (hE e)
  obtain ⟨oe₃, t₃, T₃, oT₃, ts₃, he₃, hc₃, hd₃, _⟩ := R₃.there
  rw [execs_cons]
  refine wpAny_bind (raise_from rfl he₃ hd₃ rfl (fun hq => name_B F₃ X₃ (topRead_of P₃) ex hv hn hq hkf hxk) ?_)
  intro h₄ e₄ t₄ u₄ tk₄ kp he0 ht0 he₄ ht₄
  refine hEd _ _ (leave_own hled K (fun b o q => kp b o (R₃.stays b o q)) (R₃.ff.of_keeps fun b o q _ => ⟨o, kp b o q, rfl⟩) (kts_none R₃.stays he0) (kts_none R₃.stays ht0) hB hBg he₄ ht₄ (((Heap.UpToSlots.of_keeps F.keep).trans u₃).trans (Heap.UpToSlots.of_keeps kp)) fun h₅ R₅ u₅ => ?_)
  exact hend _ _ _ _ _ R₅ u₅
/-- what a def that raises TypeError(MSG) leaves to its caller's frame -/
noncomputable def RaisesM (base h₀ : Heap) (L : Addr) (m : Str → Option Value) (news : Led) (l : List Env) (s : Shared) (E : Value → Shared → Prop) : Prop :=
  ∀ (G : Heap) (e t : Addr) (u : Tok) (h' : Heap) (tk' : Nat), Fr h₀ L G m → RaisedS base G l e (.type "TypeError") t [.str MSG u] news h' → G.UpToSlots h' → E (.ref e) { s with heap := h', toks := tk' }
/-- a callee's raise, seen from its caller: the caller's whole ledger is kept -/
noncomputable def Conv (base h₀ : Heap) (L : Addr) (m : Str → Option Value) (g : Heap) (l : List Env) (args news : Led) : Prop :=
  ∀ e cls t vs h', RaisedS base g l e cls t vs args h' → g.UpToSlots h' → ∃ G, Fr h₀ L G m ∧ RaisedS base G l e cls t vs news h' ∧ G.UpToSlots h'
/-- the contract of a def that raises TypeError(MSG) -/
noncomputable def RCon (w : World) (f : Addr) (news : Led) (vs : List Value) (n : Nat) : Prop :=
  ∀ (loose : List Str) (mean : ExcName → Option Value) (mg mb : Str → Option Value) (dp un : Nat) (gd : Option (List Code)) (cn : Str) (cs : Scope) (a : Addr) (ccd : Value) (cl : List (Str × Addr)) (outer : List Env) (A₀ : Around) (base h₀ : Heap) (L : Addr) (m : Str → Option Value) (s : Shared) (Q E : Value → Shared → Prop),
    Below A₀ base outer h₀ → Fr h₀ L s.heap m → (Mine.hd.heap_1 w.params).In h₀ → (Mine.hd.heap_1 w.params).In base → News h₀ L s.heap news → Top Mine.hd.view_1 loose mean mg mb h₀ → Top Mine.hd.view_1 loose mean mg mb base → cs.kind = .function →
    dp + n ≤ 900 → un + 100 * n ≤ 2000 → RaisesM base h₀ L m news (envX cn cs L a ccd cl :: outer) s E →
      wpAny (model PR w) (ktrTop dp un gd cn cs L a ccd cl outer) (call (.ref f) vs) Q E s
section
variable {prog : Program} {w : World} {A₀ A : Around} {s : Shared} {base h₀ : Heap} {outer : List Env} {L : Addr} {m : Str → Option Value} {env : Env} {news args : Led} {K : Frag} {p : Program} {loose : List Str} {mean : ExcName → Option Value} {mg mb : Str → Option Value}
  {R : Result → Shared → Prop} {name qual : Str} {params : Arguments} {body : List Stmt} {scope : Scope} {dV kV doc pm cdv ct oc : Value} {an od : Option Addr} {osl : Array (Option Value)} {f : Addr} {vals : Args} {binds : List (Str × Value)}
theorem enterE {m₁ : Str → Option Value} {binds₀ : List (Str × Value)} (B : Below A₀ base outer h₀ := by k_asm) (F : Fr h₀ L s.heap m := by k_asm) (X₀ : K.In h₀ := by assumption) (N : News h₀ L s.heap news := by k_asm) (T : Top p loose mean mg mb h₀ := by assumption) (hA : A.frames = some (env :: outer) := by exact rfl) (hf : env.frame = some L := by exact rfl) (hke : env.scope.kind = .function := by assumption)
    (ho : K.lookup f = some ⟨oc, od, .func (fnOf name qual params body scope dV kV doc pm an cdv ct), osl⟩ := by k_is) (hcd : codeIn K cdv qual = true := by k_is) (hroom : A.depth < recursionLimit := by ktr_room)
    (hbind : BindsTo s (fnOf name qual params body scope dV kV doc pm an cdv ct) vals binds₀ := by exact BindsTo.of_eq rfl) (hb₀ : binds₀ = binds := by first | exact (rfl : _ = [(_, _)]) | exact (rfl : _ = [(_, _), (_, _)])) (hm : (fun y => binds.reverse.lookup y) = m₁ := by first | exact look1 | exact look2) (hloc : ∀ y ∈ binds, scope.names.lookup y.1 = some .local := by exact locs rfl)
    (hsub : ∀ p ∈ args, p ∈ news := by assumption)
    (h : ∀ g L' h₁, Conv base h₀ L m g (env :: outer) args news → Fr g L' h₁ m₁ → News g L' h₁ args → Below A base (env :: outer) g → K.In g → Top p loose mean mg mb g → (∀ p ∈ args, p.1 < L') →
      wpAny (model prog w) (A.deeper (envOf qual scope L' f cdv)) (execs body (envOf qual scope L' f cdv))
        (fun fl s' => LeaveK h₀ L m g R (match fl with | .ret v => v | _ => .none) s')
        (fun e s' => wpAny (model prog w) (A.deeper (envOf qual scope L' f cdv)) (leaving (envOf qual scope L' f cdv) e) (fun _ s'' => R (.error e) s'') (fun e' s'' => R (.error e') s'') s')
        { s with heap := h₁, toks := s.toks + binds.length })
    (hcell : ∀ x ∈ scope.names, x.2 ≠ .cell := by decide) (hco : scope.isCoroutine = false := by rfl) (hgen : scope.isGenerator = false := by rfl) (hk : scope.kind = .function := by rfl) : codeAny (model prog w) A (.call (.ref f) vals) R s := by
  subst hm
  subst hb₀
  have Na : News h₀ L s.heap args := fun q hq => N q (hsub q hq)
  obtain ⟨FG, BG, st, lv⟩ := groundX (R := R) B F Na hA hf hke
  have X := X₀.keeps F.keep
  refine codeAny_call_def (fd := fnOf name qual params body scope dV kV doc pm an cdv ct) (body := body) hroom (X _ _ ho) rfl (T.nolimit.keeps F.keep) (codeRec_of X hcd) rfl hbind hcell hloc (fun h₁ hns hk₁ => ?_) hco hgen hk
  have cv : Conv base h₀ L m (hideAll s.heap (args.map (·.1))) (env :: outer) args news := fun e cls t vs h' R U => by
    obtain ⟨FN, _, _, _⟩ := groundX (R := fun _ _ => True) B F N hA hf hke
    have sub : ∀ b o, (hideAll s.heap (news.map (·.1))).get? b = some o → (hideAll s.heap (args.map (·.1))).get? b = some o := fun b o q => by
      refine hideAll_get _ (of_hideAll _ q) fun hm => ?_
      obtain ⟨r, hr, e'⟩ := List.mem_map.mp hm
      have := hideAll_none (h := s.heap) _ (List.mem_map_of_mem (f := (·.1)) (hsub r hr))
      rw [e', q] at this
      cases this
    obtain ⟨⟨B', hB', hBG, hl, hfl, hnew⟩, htup⟩ := R
    refine ⟨_, FN, ⟨⟨B', hB', fun b o q nm => hBG b o (sub b o q) nm, fun q hq => ⟨?_, hideAll_none _ (List.mem_map_of_mem hq), kts_none (fun b o z => B.stays b o z) (N q hq).2.2⟩, hfl, hnew⟩, htup⟩, fun b o q nf => U b o (sub b o q) nf⟩
    by_cases hb : q.1 ∈ args.map (·.1)
    · obtain ⟨r, hr, e'⟩ := List.mem_map.mp hb
      have h3 := (Na r hr).1
      rw [e', (N q hq).1] at h3
      have : q = r := Prod.ext e'.symm (Option.some.inj h3)
      rw [this]
      exact (hl r hr).1
    · refine hBG _ _ (hideAll_get _ (N q hq).1 hb) fun hm => ?_
      obtain ⟨env', he', hf'⟩ := List.mem_filterMap.mp hm
      rcases List.mem_cons.mp he' with rfl | he'
      · rw [hf] at hf'
        exact (N q hq).2.1 (Option.some.inj hf').symm
      · obtain ⟨_, o, ho, _⟩ := B.frames.mem (List.mem_filterMap.mpr ⟨env', he', hf'⟩)
        rw [(N q hq).2.2] at ho
        cases ho
  exact wpAny_mono (h _ s.heap.objs.size h₁ cv ⟨hns, fun b o e => hk₁ b o (of_hideAll _ e), Nat.le_of_eq (hideAll_size _ _)⟩
    (fun q hq => ⟨hk₁ _ _ (Na q hq).1, Nat.ne_of_lt (Heap.lt_size (Na q hq).1), hideAll_none _ (List.mem_map_of_mem hq)⟩) BG (X₀.keeps st) (T.keeps st) (fun q hq => Heap.lt_size (Na q hq).1)) (fun fl s' hl => lv _ _ hl) fun _ _ y => y
end
section
local macro_rules | `(tactic| walk_at "ENTERE") => `(tactic| (refine wpAny_call ?_; k_dflt (refine enterE (h := ?_); k_whole; intro g' L' h' G' F' N' B' X' T' l1; (try dsimp only at F'); (try dsimp only); (try k_lift B'); (try walk_at "FOLD"); (try k_lt l1))))
local macro_rules | `(tactic| walk_at "BODYE") => `(tactic| (intro loose mean mg mb dp un gd cn cs a ccd cl outer A₀ base h₀ L m s Q E B F X XB N T TB hk hdp hun hret; w_on; walk_at "ENTERE"; clear B F X N T; k_steps))
local macro_rules | `(tactic| walk_at "assign Tuple") => `(tactic| (k_here; (with_reducible show wpAny _ _ (assign (Expr.Tuple _ _ _) _ (Value.str _ _)) _ _ _); k_dflt (refine asg_bad_str (hE := ?_)); intro h' tk' e' x'))
local macro_rules | `(tactic| walk_at "noteFrame ref") => `(tactic| (k_here; refine hold_in ?_))
abbrev tupOb (vs : List Value) (n : Nat) : Obj := { cls := .type "tuple", data := .seq vs.toArray n }
theorem r_build_list (w : World) (news : Led) (r : Addr) (vs : List Value) (n : Nat) (hl : (r, listOf vs.toArray n) ∈ news) (hn : vs.length = 1 ∨ vs.length = 3) : RCon w 35 news [.ref r] 1 := by
  have hs := sub_one hl
  walk_at "BODYE"
  refine Hold.out ?_
  (rename Heap.NewExc _ _ _ _ => lX); (rename Fr _ _ _ _ => lF); (rename RaisesM _ _ _ _ _ _ _ _ => lR); (rename News _ _ _ _ => lN)
  k_dflt (refine' own_caught (X := "ValueError") lX ?F lN ?K ?XB ?TB ?hkf ?T ?ex ?hv ?hn ?hxk ?hEd ?hE ?hend)
  case F => exact lF
  case K => assumption
  case XB => assumption
  case TB => assumption
  case hkf => rfl
  case T => kts_test
  case ex => k_is
  case hv => boot_by_name
  case hn => decide
  case hxk => rfl
  case hEd => exact fun e s h => h
  case hE => intro e; passes_own
  case hend =>
    intro e t u h' tk' R U
    (rename Conv _ _ _ _ _ _ _ _ => lC)
    obtain ⟨G, FG, R', U'⟩ := lC _ _ _ _ _ R U
    exact lR _ _ _ _ _ _ FG R' U'
theorem r_build_tuple (w : World) (news : Led) (r : Addr) (vs : List Value) (n : Nat) (hl : (r, tupOb vs n) ∈ news) (hn : vs.length = 1 ∨ vs.length = 3) : RCon w 35 news [.ref r] 1 := by
  have hs := sub_one hl
  walk_at "BODYE"
  refine Hold.out ?_
  (rename Heap.NewExc _ _ _ _ => lX); (rename Fr _ _ _ _ => lF); (rename RaisesM _ _ _ _ _ _ _ _ => lR); (rename News _ _ _ _ => lN)
  k_dflt (refine' own_caught (X := "ValueError") lX ?F lN ?K ?XB ?TB ?hkf ?T ?ex ?hv ?hn ?hxk ?hEd ?hE ?hend)
  case F => exact lF
  case K => assumption
  case XB => assumption
  case TB => assumption
  case hkf => rfl
  case T => kts_test
  case ex => k_is
  case hv => boot_by_name
  case hn => decide
  case hxk => rfl
  case hEd => exact fun e s h => h
  case hE => intro e; passes_own
  case hend =>
    intro e t u h' tk' R U
    (rename Conv _ _ _ _ _ _ _ _ => lC)
    obtain ⟨G, FG, R', U'⟩ := lC _ _ _ _ _ R U
    exact lR _ _ _ _ _ _ FG R' U'
theorem r_build_str (w : World) (news : Led) (x : Str) (t : Tok) (hn : x.cps.size = 1 ∨ x.cps.size = 3) : RCon w 35 news [.str x t] 1 := by
  have hs : ∀ p ∈ ([] : Led), p ∈ news := by simp
  walk_at "BODYE"
  refine Hold.out ?_
  (rename Heap.NewExc _ _ _ _ => lX); (rename Fr _ _ _ _ => lF); (rename RaisesM _ _ _ _ _ _ _ _ => lR); (rename News _ _ _ _ => lN)
  k_dflt (refine' own_caught (X := "ValueError") lX ?F lN ?K ?XB ?TB ?hkf ?T ?ex ?hv ?hn ?hxk ?hEd ?hE ?hend)
  case F => exact lF
  case K => assumption
  case XB => assumption
  case TB => assumption
  case hkf => rfl
  case T => kts_test
  case ex => k_is
  case hv => boot_by_name
  case hn => decide
  case hxk => rfl
  case hEd => exact fun e s h => h
  case hE => intro e; passes_own
  case hend =>
    intro e t u h' tk' R U
    (rename Conv _ _ _ _ _ _ _ _ => lC)
    obtain ⟨G, FG, R', U'⟩ := lC _ _ _ _ _ R U
    exact lR _ _ _ _ _ _ FG R' U'
local macro_rules | `(tactic| walk_at "binaryOp Add int str") => `(tactic| (k_here; k_dflt (refine add_int_str (hE := ?_)); intro h' tk' e' x'))
local macro_rules | `(tactic| walk_at "binaryOp Add str int") => `(tactic| (k_here; k_dflt (refine add_str_int (hE := ?_)); intro h' tk' e' x'))
theorem r_7s (w : World) (news : Led) (r : Addr) (o : Obj) (t u : Tok) (b : Str) (n : Nat) (ho : o = listOf [.int 7 t, .str b u].toArray n ∨ o = tupOb [.int 7 t, .str b u] n) (hl : (r, o) ∈ news) : RCon w 35 news [.ref r] 1 := by
  rcases ho with rfl | rfl
  all_goals
    have hs := sub_one hl
    walk_at "BODYE"
    refine Hold.out ?_
    (rename Heap.NewExc _ _ _ _ => lX); (rename Fr _ _ _ _ => lF); (rename RaisesM _ _ _ _ _ _ _ _ => lR); (rename News _ _ _ _ => lN)
    k_dflt (refine' own_caught (X := "TypeError") lX ?F lN ?K ?XB ?TB ?hkf ?T ?ex ?hv ?hn ?hxk ?hEd ?hE ?hend)
    case F => exact lF
    case K => assumption
    case XB => assumption
    case TB => assumption
    case hkf => rfl
    case T => kts_test
    case ex => k_is
    case hv => boot_by_name
    case hn => decide
    case hxk => rfl
    case hEd => exact fun e s h => h
    case hE => intro e; passes_own
    case hend =>
      intro e t u h' tk' R U
      (rename Conv _ _ _ _ _ _ _ _ => lC)
      obtain ⟨G, FG, R', U'⟩ := lC _ _ _ _ _ R U
      exact lR _ _ _ _ _ _ FG R' U'
theorem r_07 (w : World) (news : Led) (r : Addr) (o : Obj) (t : Tok) (n : Nat) (ho : o = listOf [.none, .int 7 t].toArray n ∨ o = tupOb [.none, .int 7 t] n) (hl : (r, o) ∈ news) : RCon w 35 news [.ref r] 1 := by
  rcases ho with rfl | rfl
  all_goals
    have hs := sub_one hl
    walk_at "BODYE"
    refine Hold.out ?_
    (rename Heap.NewExc _ _ _ _ => lX); (rename Fr _ _ _ _ => lF); (rename RaisesM _ _ _ _ _ _ _ _ => lR); (rename News _ _ _ _ => lN)
    k_dflt (refine' own_caught (X := "TypeError") lX ?F lN ?K ?XB ?TB ?hkf ?T ?ex ?hv ?hn ?hxk ?hEd ?hE ?hend)
    case F => exact lF
    case K => assumption
    case XB => assumption
    case TB => assumption
    case hkf => rfl
    case T => kts_test
    case ex => k_is
    case hv => boot_by_name
    case hn => decide
    case hxk => rfl
    case hEd => exact fun e s h => h
    case hE => intro e; passes_own
    case hend =>
      intro e t u h' tk' R U
      (rename Conv _ _ _ _ _ _ _ _ => lC)
      obtain ⟨G, FG, R', U'⟩ := lC _ _ _ _ _ R U
      exact lR _ _ _ _ _ _ FG R' U'
theorem r_s7 (w : World) (news : Led) (r : Addr) (o : Obj) (t u : Tok) (b : Str) (n : Nat) (hb : Tx 1 b) (ho : o = listOf [.str b u, .int 7 t].toArray n ∨ o = tupOb [.str b u, .int 7 t] n) (hl : (r, o) ∈ news) : RCon w 35 news [.ref r] 1 := by
  have hb1 := hb.len
  rcases ho with rfl | rfl
  all_goals
    have hs := sub_one hl
    walk_at "BODYE"
    refine Hold.out ?_
    (rename Heap.NewExc _ _ _ _ => lX); (rename Fr _ _ _ _ => lF); (rename RaisesM _ _ _ _ _ _ _ _ => lR); (rename News _ _ _ _ => lN)
    k_dflt (refine' own_caught (X := "TypeError") lX ?F lN ?K ?XB ?TB ?hkf ?T ?ex ?hv ?hn ?hxk ?hEd ?hE ?hend)
    case F => exact lF
    case K => assumption
    case XB => assumption
    case TB => assumption
    case hkf => rfl
    case T => kts_test
    case ex => k_is
    case hv => boot_by_name
    case hn => decide
    case hxk => rfl
    case hEd => exact fun e s h => h
    case hE => intro e; passes_own
    case hend =>
      intro e t u h' tk' R U
      (rename Conv _ _ _ _ _ _ _ _ => lC)
      obtain ⟨G, FG, R', U'⟩ := lC _ _ _ _ _ R U
      exact lR _ _ _ _ _ _ FG R' U'
end
noncomputable def costOf (x y : Str) : Int := if x = y then 0 else if Txt.lower x = Txt.lower y then 1 else 2
theorem cost_0 {x y : Str} (h : x = y) : costOf x y = 0 := by simp [costOf, h]
theorem cost_1 {x y : Str} (h : x ≠ y) (h1 : Txt.lower x = Txt.lower y) : costOf x y = 1 := by simp [costOf, h, h1]
theorem cost_2 {x y : Str} (h : x ≠ y) (h1 : Txt.lower x ≠ Txt.lower y) : costOf x y = 2 := by simp [costOf, h, h1]
theorem out_c0 {x y : Str} {t : Tok} (h : x = y) : OutI (costOf x y) [] (.int 0 t) := by rw [cost_0 h]; exact ⟨rfl, _, rfl⟩
theorem out_c1 {x y : Str} {t : Tok} (h : x ≠ y) (h1 : Txt.lower x = Txt.lower y) : OutI (costOf x y) [] (.int 1 t) := by rw [cost_1 h h1]; exact ⟨rfl, _, rfl⟩
theorem out_c2 {x y : Str} {t : Tok} (h : x ≠ y) (h1 : Txt.lower x ≠ Txt.lower y) : OutI (costOf x y) [] (.int 2 t) := by rw [cost_2 h h1]; exact ⟨rfl, _, rfl⟩
theorem c_cost (w : World) (news : Led) (x y : Str) (tx ty : Tok) (hx : Tx 1 x) (hy : Tx 1 y) : Con w 42 news [.str x tx, .str y ty] 1 (OutI (costOf x y)) := by
  have hs : ∀ p ∈ ([] : Led), p ∈ news := by simp
  have hx1 := hx.len
  have hy1 := hy.len
  walk_at "BODY"
  all_goals (try rename ((_ == _) = _) => e1)
  all_goals (try rename ((_ == _) = _) => e2)
  all_goals (simp only [beq_iff_eq, beq_eq_false_iff_ne, ne_eq] at *)
  all_goals first | exact endP_flat (out_c0 (by assumption)) | exact endP_flat (out_c1 (by assumption) (by assumption)) | exact endP_flat (out_c2 (by assumption) (by assumption))

section
open LCg
variable {prog : Program} {w : World} {A : Around} {E : Value → Shared → Prop} {s : Shared} {h₀ : Heap} {L : Addr} {m : Str → Option Value} {env : Env} {news : Led}
/-- a dict of new empty dicts, while it is written -/
noncomputable def DNew (prog : Program) (w : World) (z : Str) (i : Nat) (dl : Led) (kvs : List (Str × Value)) : Prop :=
  kvs.map (·.1) = (z.cps.toList.take i).map sg1 ∧ kvs.map (·.2) = dl.map (fun p => Value.ref p.1) ∧ ∀ p ∈ dl, (p.1 == sysModules) = false ∧ p.2.IsDictOf (PySem.strKind prog w) []
theorem sg1_inj {a b : Nat} (h : sg1 a = sg1 b) : a = b := by
  simp only [sg1, Str.mk.injEq, Array.mk.injEq, List.cons.injEq, and_true] at h; exact h
theorem dnew_miss {z : Str} {i : Nat} {dl : Led} {kvs : List (Str × Value)} {c : Nat} (hz : z.cps.toList.Nodup) (h : DNew prog w z i dl kvs) (hc : z.cps[i]? = some c) : valueAt kvs (sg1 c) = none := by
  have hlt : i < z.cps.toList.length := by
    obtain ⟨q, _⟩ := Array.getElem?_eq_some_iff.mp hc
    simpa using q
  have hnot : sg1 c ∉ kvs.map (·.1) := by
    rw [h.1]
    intro hm
    obtain ⟨d, hd, e⟩ := List.mem_map.mp hm
    have e := sg1_inj e
    subst e
    have hdrop : d ∈ z.cps.toList.drop i := by
      rw [List.drop_eq_getElem_cons hlt]
      have : z.cps.toList[i] = d := by
        have q : z.cps.toList[i]? = some d := by rw [Array.getElem?_toList]; exact hc
        rw [List.getElem?_eq_getElem hlt] at q
        exact Option.some.inj q
      rw [this]; exact List.mem_cons_self ..
    have hz' : (z.cps.toList.take i ++ z.cps.toList.drop i).Nodup := by rw [List.take_append_drop]; exact hz
    exact (List.nodup_append.mp hz').2.2 d hd d hdrop rfl
  unfold valueAt
  have : kvs.find? (fun kv => kv.1 = sg1 c) = none := List.find?_eq_none.mpr fun kv hkv e => hnot (List.mem_map.mpr ⟨kv, hkv, by simpa using e⟩)
  rw [this]; rfl
theorem dnew_snoc {z : Str} {i : Nat} {dl : Led} {kvs : List (Str × Value)} {c : Nat} {d : Addr} {o : Obj} (hz : z.cps.toList.Nodup) (h : DNew prog w z i dl kvs) (hc : z.cps[i]? = some c) (lo : (d == sysModules) = false) (ho : o.IsDictOf (PySem.strKind prog w) []) :
    DNew prog w z (i + 1) (dl ++ [(d, o)]) (stored kvs (sg1 c) (.ref d)) := by
  rw [stored_absent (dnew_miss hz h hc)]
  refine ⟨?_, ?_, fun p hp => ?_⟩
  · have q : z.cps.toList[i]? = some c := by rw [Array.getElem?_toList]; exact hc
    rw [List.map_append, h.1, List.take_add_one, q]; simp
  · rw [List.map_append, h.2.1, List.map_append]; rfl
  · rcases List.mem_append.mp hp with hp | hp
    · exact h.2.2 p hp
    · rw [List.mem_singleton.mp hp]; exact ⟨lo, ho⟩
noncomputable def FinD (prog : Program) (w : World) (h₀ : Heap) (L : Addr) (m : Str → Option Value) (s : Shared) (y : Str) (z : Str) (news : Led) (Q : Flow → Shared → Prop) : Prop :=
  ∀ D oD dl kvs h tk, Fr h₀ L h (fun x => if x = y then some (.ref D) else m x) → News h₀ L h ((D, oD) :: (dl ++ news)) → (∀ p ∈ dl ++ news, @Ne Nat p.1 D) → (∀ p ∈ dl, ∀ q ∈ news, @Ne Nat q.1 p.1) → (D == sysModules) = false → oD.IsDictOf (PySem.strKind prog w) kvs → DNew prog w z z.cps.size dl kvs →
    Q .next { s with heap := h, toks := tk }
inductive CompSrcD (prog : Program) (w : World) (A : Around) (h₀ : Heap) (L : Addr) (m : Str → Option Value) (y : Str) (Q : Flow → Shared → Prop) (xv : Value) (s₁ : Shared) : Prop
  | mk (z) (t) (news) (_ : xv = .str z t) (_ : z.cps.all (· < 128) = true) (_ : z.cps.toList.Nodup) (_ : z.cps.size ≤ 64) (_ : A.handled = none) (_ : Fr h₀ L s₁.heap m) (_ : News h₀ L s₁.heap news) (_ : h₀.NoLimit) (_ : ∀ s₂ : Shared, (∃ h, s₂ = { s₁ with heap := h }) → FinD prog w h₀ L m s₂ y z news Q) : CompSrcD prog w A h₀ L m y Q xv s₁
theorem CompSrcD.text {y : Str} {Q : Flow → Shared → Prop} {z : Str} {t : Tok} {s₁ : Shared} (ha : z.cps.all (· < 128) = true) (hz : z.cps.toList.Nodup) (hn : z.cps.size ≤ 64) (hh : A.handled = none) (F : Fr h₀ L s₁.heap m) (N : News h₀ L s₁.heap news) (hb : h₀.NoLimit)
    (h : ∀ g, FinD prog w h₀ L m { s₁ with heap := g } y z news Q) : CompSrcD prog w A h₀ L m y Q (.str z t) s₁ := ⟨z, t, news, rfl, ha, hz, hn, hh, F, N, hb, fun _ ⟨g, e⟩ => e ▸ h g⟩
inductive DInv (prog : Program) (w : World) (s₁ : Shared) (z : Str) (t : Tok) (I D C L : Addr) (h₀ : Heap) (m : Str → Option Value) (news : Led) (k : Nat) (s' : Shared) : Prop
  | mk (h' : Heap) (tk i : Nat) (dl : Led) (kvs : List (Str × Value)) (m' : Str → Option Value) (oD : Obj) (_ : s' = { s₁ with heap := h', toks := tk }) (_ : i ≤ z.cps.size) (_ : k = z.cps.size + 1 - i) (_ : h'.IsStrIter I "str_ascii_iterator" z t i) (_ : Fr h₀ L h' m) (_ : h'.Ns C m') (_ : News h₀ L h' ((D, oD) :: (dl ++ news))) (_ : oD.IsDictOf (PySem.strKind prog w) kvs) (_ : DNew prog w z i dl kvs) (_ : (∀ p ∈ dl, ∀ q ∈ news, @Ne Nat q.1 p.1)) (_ : ∀ p ∈ dl ++ news, @Ne Nat p.1 D ∧ @Ne Nat p.1 C ∧ @Ne Nat p.1 I) : DInv prog w s₁ z t I D C L h₀ m news k s'
theorem Assign_DictComp_new {x y : Str} {px py pk pv : Pos} {iter : Expr} {scope : Scope} {cl : List (Str × Addr)} {pos spos : Pos} {Q : Flow → Shared → Prop} (F₀ : Fr h₀ L s.heap m) (hLe : env.locals = L)
    (hsw : swapsWith (.DictComp (.Name x pk) (.Dict [] [] pv) [⟨.Name x px, iter, [], 0⟩] scope pos) (some (.Name y py)) spos.line env = pure true)
    (hclos : closureFor scope env = pure cl) (hcell : ∀ z ∈ scope.names, z.2 ≠ .cell) (hkind : scope.kind = .function)
    (hnames : ∀ z ∈ scope.names, z.2 = .local → scope.names.lookup z.1 = some .local) (hx : scope.names.lookup x = some .local)
    (hy : env.kindOf y = some .local) (hp : (env.scope.kind == .class || (env.scope.kind == .module && env.locals != env.globals)) = false) (hd : (x == ("__debug__" : Str)) = false)
    (h : wpAny (model prog w) A (eval iter env) (CompSrcD prog w A h₀ L m y Q) E s)
    (hs : ∀ x, foldedSetIterable iter env x = pure x := by intro _; rfl) :
    wpAny (model prog w) A (exec (.Assign [.Name y py] (.DictComp (.Name x pk) (.Dict [] [] pv) [⟨.Name x px, iter, [], 0⟩] scope pos) spos) env) Q E s := by
  subst hLe
  rw [exec_Assign_Name_used _ _ _ _ hsw]
  refine wpAny_bind (wpAny_standAt (wpAny_bind ?_))
  show wpAny _ A (do let _ ← comprehension (.DictComp (.Name x pk) (.Dict [] [] pv) [⟨.Name x px, iter, [], 0⟩] scope pos) scope env _ newDict false (eval iter env) (some (assign (.Name y py) env))) _ _ s
  refine wpAny_bind (wpAny_mono (wpAny_comprehension_free (use := some (assign (.Name y py) env)) (Q := fun _ s' => Q .next s') rfl hs hclos hkind hnames
    (wpAny_mono h (fun xv s₁ h₁ => ?_) fun _ _ e => e)) (fun _ s' hq => wpAny_pure (wpAny_pure hq)) fun _ _ e => e)
  refine foldP fun G hG => ?_
  obtain ⟨z, t, news, zr1, ha, hz, hsz, hh, F, N, hbig, R⟩ := h₁
  refine hG ?_
  clear hG G
  subst zr1
  refine wpAny_pyIter_ascii ha ?_
  generalize hs₂ : s₁.heap.push { cls := .type "str_ascii_iterator", data := .fields #[.str z t, .int 0 0] } = H1
  have hH1 : H1.objs.size = s₁.heap.objs.size + 1 := by rw [← hs₂, Heap.size_push]
  have hst0 : H1.IsStrIter s₁.heap.objs.size "str_ascii_iterator" z t 0 := by rw [← hs₂]; exact ⟨_, Heap.get?_push_size _ rfl, rfl, rfl⟩
  have up1 : ∀ b o, s₁.heap.get? b = some o → H1.get? b = some o := fun b o e => by rw [← hs₂]; exact Heap.get?_push_of_some _ e
  refine wpAny_newObj_type (wpAny_newFunctionEnv hcell (by intro y hy; simp at hy) (fun h₁ hns₁ hsb₁ => ?_) hkind)
  dsimp only at hns₁ hsb₁ ⊢
  have hnew : (H1.push { cls := .type "dict", dict := none, data := .dict #[] }).DictOf (PySem.strKind prog w) H1.objs.size [] := Heap.DictOf.new H1
  generalize hH2 : H1.push { cls := .type "dict", dict := none, data := .dict #[] } = H2 at hns₁ hsb₁ hnew ⊢
  have hC : H2.objs.size = H1.objs.size + 1 := by rw [← hH2, Heap.size_push]
  have up2 : ∀ b o, H1.get? b = some o → H2.get? b = some o := fun b o e => by rw [← hH2]; exact Heap.get?_push_of_some _ e
  have old : ∀ b o, H2.get? b = some o → h₁.get? b = some o := fun b o e => hsb₁.extBut b o (Nat.ne_of_lt (Heap.lt_size e)) (Heap.get?_push_of_some _ e)
  have st1 : h₁.IsStrIter s₁.heap.objs.size "str_ascii_iterator" z t 0 := by
    obtain ⟨o, ho, r⟩ := hst0
    exact ⟨o, old _ _ (up2 _ _ ho), r⟩
  have acc1 : ∃ oD, h₁.get? H1.objs.size = some oD ∧ oD.IsDictOf (PySem.strKind prog w) [] := by
    obtain ⟨o, ho, r⟩ := Heap.dictOf_iff.mp hnew
    exact ⟨o, old _ _ ho, r⟩
  have keep1 : ∀ b o, s₁.heap.get? b = some o → h₁.get? b = some o := fun b o e => old b o (up2 b o (up1 b o e))
  have fresh₀ : ∀ a : Nat, s₁.heap.objs.size ≤ a → h₀.get? a = none := fun a ha => by
    cases e : h₀.get? a with
    | none => rfl
    | some o' => exact absurd (Heap.lt_size (F.keep a o' e)) (Nat.not_lt.mpr ha)
  have hLlt : @LT.lt Nat _ env.locals s₁.heap.objs.size := F.ns.lt
  have nlt : ∀ p ∈ news, @LT.lt Nat _ p.1 s₁.heap.objs.size := fun p hp => Heap.lt_size (N p hp).1
  have loD : (H1.objs.size == sysModules) = false := by
    rw [hH1]
    exact beq_eq_false_iff_ne.mpr (Nat.ne_of_gt (Nat.lt_succ_of_lt (Nat.lt_trans (modules_low hbig) (Nat.lt_of_le_of_lt F.above F.ns.lt))))
  generalize eI : s₁.heap.objs.size = I at *
  generalize eD : H1.objs.size = D at *
  generalize eC : H2.objs.size = C at *
  have hx' : (compEnvC scope cl C env).kindOf x = some .local := lookup_relabel_local hx
  have n1 : @Ne Nat I D := by omega
  have n2 : @Ne Nat I C := by omega
  have n3 : @Ne Nat D C := by omega
  have n4 : @Ne Nat env.locals I := by omega
  have n5 : @Ne Nat env.locals D := by omega
  have n6 : @Ne Nat env.locals C := by omega
  obtain ⟨oD0, gD0, hD0⟩ := acc1
  have loop : ∀ s₃ : Shared, s₃ = { s₁ with heap := h₁, toks := s₁.toks + ([] : List (Str × Value)).length } →
      codeAny (model prog w) A (.compLoop (.DictComp (.Name x pk) (.Dict [] [] pv) [⟨.Name x px, iter, [], 0⟩] scope pos) 0 (.ref I) (.ref D) (compEnvC scope cl C env))
        (compPost (model prog w) A E (some (assign (.Name y py) env)) (fun _ s' => Q .next s') (.ref D) C) s₃ := by
    rintro s₃ rfl
    refine codeAny_compLoop_testsD
      (DInv prog w s₁ z t I D C env.locals h₀ m news) ?_ (z.cps.size + 1)
      ⟨h₁, _, 0, [], [], _, oD0, rfl, Nat.zero_le _, rfl, st1, F.keeps keep1, hns₁, fun p hp => ?_, hD0, ⟨rfl, rfl, fun p hp => absurd hp List.not_mem_nil⟩, fun p hp => absurd hp List.not_mem_nil, fun p hp => ?_⟩
    · rintro k s' ⟨h', tk, i, dl, kvs, m', oD, rfl, hi, rfl, st, F', hn', N', hd', hdn, apt, off⟩
      have hI₀ : h₀.get? I = none := fresh₀ _ (by omega)
      have hC₀ : h₀.get? C = none := fresh₀ _ (by omega)
      have hD₀ : h₀.get? D = none := fresh₀ _ (by omega)
      have offI : ∀ p ∈ (D, oD) :: (dl ++ news), @Ne Nat p.1 I := fun p hp => by
        rcases List.mem_cons.mp hp with rfl | hp
        · exact n1.symm
        · exact (off p hp).2.2
      have offC : ∀ p ∈ (D, oD) :: (dl ++ news), @Ne Nat p.1 C := fun p hp => by
        rcases List.mem_cons.mp hp with rfl | hp
        · exact n3
        · exact (off p hp).2.1
      by_cases hlt : i < z.cps.size
      · refine foldP fun G hG => ?_
        obtain ⟨c, hc⟩ : ∃ c, z.cps[i]? = some c := ⟨_, Array.getElem?_eq_getElem hlt⟩
        refine hG ?_
        clear hG G
        refine wpAny_pyNext_ascii_item st hc fun h1 hit1 hs1 => ?_
        have F1 := F'.change hs1 n4.symm hI₀
        have hn1 := hn'.sameBut hs1 n2.symm
        refine wpAny_assign_Name (wpAny_storeName_local hx' hn1 (fun h2 hn2 hs2 => ?_) (by simp [compEnvC, relabel, hkind]))
        have F2 := F1.change hs2 n6.symm hC₀
        have N2 : News h₀ env.locals h2 ((D, oD) :: (dl ++ news)) := fun p hp => ⟨hs2.extBut _ _ (offC p hp) (hs1.extBut _ _ (offI p hp) (N' p hp).1), (N' p hp).2⟩
        have st2 : h2.IsStrIter I "str_ascii_iterator" z t (i + 1) := by
          obtain ⟨o, ho, r⟩ := hit1
          exact ⟨o, hs2.extBut _ _ n2 ho, r⟩
        refine wpAny_of_eq (a := true) rfl ?_
        rw [if_pos rfl]
        refine ldVarK (v := .str (sg1 c) tk) hn2 (by simp [sg1]) ?_ (by simp [compEnvC, relabel, hkind]) hx' hd
        refine wpAny_Dict_empty ?_
        have F3 := F2.push { cls := .type "dict", data := .dict #[] }
        have N3 := News.push F2 N2 { cls := .type "dict", data := .dict #[] }
        have loN := F2.notModules (modules_low hbig)
        have hob : ({ cls := .type "dict", data := .dict #[] } : Obj).IsDictOf (PySem.strKind prog w) [] := by
          obtain ⟨o, ho, hd⟩ := Heap.dictOf_iff.mp (Heap.DictOf.new (knd := PySem.strKind prog w) h2)
          rw [Heap.get?_push_size _ rfl] at ho
          exact (Option.some.inj ho) ▸ hd
        have hn3 : (h2.push { cls := .type "dict", data := .dict #[] }).Ns C _ := hn2.push _
        have st3 : (h2.push { cls := .type "dict", data := .dict #[] }).IsStrIter I "str_ascii_iterator" z t (i + 1) := by
          obtain ⟨o, ho, r⟩ := st2
          exact ⟨o, Heap.get?_push_of_some _ ho, r⟩
        have bD : @LT.lt Nat _ D h2.objs.size := Heap.lt_size (N2 _ (List.mem_cons_self ..)).1
        have bC : @LT.lt Nat _ C h2.objs.size := hn2.lt
        have bI : @LT.lt Nat _ I h2.objs.size := by obtain ⟨o, ho, _⟩ := st2; exact Heap.lt_size ho
        have lk : kvs.length ≤ 64 := by
          have := congrArg List.length hdn.1
          simp only [List.length_map, List.length_take, Array.length_toList] at this
          omega
        have hDk : (h2.push { cls := .type "dict", data := .dict #[] }).DictOf (PySem.strKind prog w) D kvs := Heap.dictOf_iff.mpr ⟨oD, (N3 _ (List.mem_cons_of_mem _ (List.mem_cons_self ..))).1, hd'⟩
        generalize ed : h2.objs.size = d at *
        generalize h2.push { cls := .type "dict", data := .dict #[] } = h3 at *
        refine wpAny_dictSet_pairs (knd := PySem.strKind prog w) (k := sg1 c) (kvs := kvs) (by exact strKind_is _ _ _ _) hDk (fun h6 hl6 hs6 => ?_) (by rw [sizeLine_eq]; omega)
        obtain ⟨oD6, g6, hD6⟩ := Heap.dictOf_iff.mp hl6
        have mem3 : ∀ p ∈ dl ++ [(d, ({ cls := .type "dict", data := .dict #[] } : Obj))] ++ news, p ∈ (d, ({ cls := .type "dict", data := .dict #[] } : Obj)) :: (D, oD) :: (dl ++ news) := fun p hp => by
          simp only [List.mem_append, List.mem_cons, List.not_mem_nil, or_false] at hp ⊢
          rcases hp with (hp | hp) | hp
          · exact .inr (.inr (.inl hp))
          · exact .inl hp
          · exact .inr (.inr (.inr hp))
        have off6 : ∀ p ∈ dl ++ [(d, ({ cls := .type "dict", data := .dict #[] } : Obj))] ++ news, @Ne Nat p.1 D ∧ @Ne Nat p.1 C ∧ @Ne Nat p.1 I := fun p hp => by
          simp only [List.mem_append, List.mem_cons, List.not_mem_nil, or_false] at hp
          rcases hp with (hp | rfl) | hp
          · exact off p (List.mem_append.mpr (.inl hp))
          · exact ⟨Nat.ne_of_gt bD, Nat.ne_of_gt bC, Nat.ne_of_gt bI⟩
          · exact off p (List.mem_append.mpr (.inr hp))
        refine ⟨z.cps.size + 1 - (i + 1), by omega, h6, _, i + 1, dl ++ [(d, { cls := .type "dict", data := .dict #[] })], _, _, oD6, rfl, hlt, rfl, ?_, F3.change hs6 n5.symm hD₀, hn3.sameBut hs6 n3.symm, fun p hp => ?_, hD6, dnew_snoc hz hdn hc loN hob, fun p hp q hq => ?_, off6⟩
        · obtain ⟨o, ho, r⟩ := st3
          exact ⟨o, hs6.extBut _ _ n1 ho, r⟩
        · rcases List.mem_cons.mp hp with rfl | hp
          · exact ⟨g6, n5.symm, hD₀⟩
          · exact ⟨hs6.extBut _ _ (off6 p hp).1 (N3 p (mem3 p hp)).1, (N3 p (mem3 p hp)).2⟩
        · rcases List.mem_append.mp hp with hp | hp
          · exact apt p hp q hq
          · rw [List.mem_singleton.mp hp]
            exact Nat.ne_of_lt (Nat.lt_trans (nlt q hq) bI)
      · obtain rfl : i = z.cps.size := by omega
        refine wpAny_pyNext_ascii_end hh st (by simp) fun h1 he1 => ?_
        have F1 : Fr h₀ env.locals h1 m := fr_but F' (fun b o hb e => he1 b o (by simpa using hb) e) n4 hI₀
        have N1 : News h₀ env.locals h1 ((D, oD) :: (dl ++ news)) := fun p hp => ⟨he1 _ _ (offI p hp) (N' p hp).1, (N' p hp).2⟩
        have hn1 : h1.Ns C m' := hn'.at' fun o e => he1 _ _ n2.symm e
        show wpAny _ A (assign (.Name y py) env (.ref D)) _ _ _
        refine wpAny_assign_Name (wpAny_storeName_local hy F1.ns (fun h₂ hn₂ hs₂ => ?_) hp)
        have hL₀ : h₀.get? env.locals = none := Heap.get?_none_of_le F1.above
        have F₂ : Fr h₀ env.locals h₂ (fun z => if z = y then some (.ref D) else m z) := ⟨hn₂, fun b o e => hs₂.extBut b o (fun q => by rw [q, hL₀] at e; cases e) (F1.keep b o e), F1.above⟩
        refine ⟨m', hn1.sameBut hs₂ n6.symm, fun h'' hs'' => R _ ⟨s₁.heap, rfl⟩ D oD dl kvs h'' _ (F₂.change hs'' n6.symm hC₀) (fun p hp => ?_) (fun p hp => (off p hp).1) apt loD hd' hdn⟩
        exact ⟨hs''.extBut _ _ (offC p hp) (hs₂.extBut _ _ (N1 p hp).2.1 (N1 p hp).1), (N1 p hp).2⟩
    · rcases List.mem_cons.mp hp with rfl | hp
      · exact ⟨gD0, n5.symm, fresh₀ _ (by omega)⟩
      · exact ⟨keep1 _ _ (N p hp).1, (N p hp).2⟩
    · have := nlt p hp
      exact ⟨by omega, by omega, by omega⟩
  exact codeAny_compStart_dict (loop _ rfl) ((Walks.strAscii hh I z t).self 0 _ _ _ st1 (loop _ rfl))
end

noncomputable def opp (k : Nat) : Nat := if k % 2 = 0 then k + 1 else k - 1
noncomputable def sgk (k : Nat) : Str := sgn (k : Int)
noncomputable def prD (k : Nat) : Dat := .tuple [.str (sgk k), .str (sgk (opp k))]
noncomputable def chk (k : Nat) : Nat := (Str.ofString "aAbBdD").cps.getD k 0
/-- the signs that a text bears, by number -/
noncomputable def readOf : List Nat → List Nat
  | [] => []
  | c :: r => (if (List.range 6).any (fun k => chk k == c) then [((List.range 6).find? (fun k => chk k == c)).getD 0] else []) ++ readOf r
noncomputable def goodC (c : Nat) : Prop := c ∈ [97, 65, 98, 66, 100, 68, 67, 46]
noncomputable def RdLed (inner : Led) (l Lc : Addr) : Prop := ∀ p ∈ inner, p.2.cls = .type "tuple" ∧ @Ne Nat p.1 l ∧ @Ne Nat p.1 Lc
inductive JRead (goal : List Nat) (news₀ : Led) (m₀ : Str → Option Value) (rest : List Nat) (m : Str → Option Value) (nw : Led) : Prop
  | mk (q : Str → Option Value) (l Lc : Addr) (o0 oc0 oc : Obj) (vs : List Value) (c : Nat) (inner : Led) (ks : List Nat) (x : Option Value) (_ : news₀ = [(l, o0), (Lc, oc0)]) (_ : m = (fun y => if y = Str.ofString "costs" then q y else m₀ y)) (_ : nw = (l, listOf vs.toArray c) :: (Lc, oc) :: inner) (_ : RdLed inner l Lc) (_ : oc.data = .cell x) (_ : DatAll inner vs (ks.map prD)) (_ : ks ++ readOf rest = goal) (_ : (∀ c ∈ rest, goodC c)) (_ : ks.length + rest.length ≤ 3) : JRead goal news₀ m₀ rest m nw
theorem sign_lit {i : Nat} {v : Value} (hi : i < 6) (h : SignAt (Str.ofString "aAbBdD") i v) : ∃ u, v = .str (sgk i) u := by
  obtain ⟨c, u, hc, rfl⟩ := h
  refine ⟨u, ?_⟩
  congr 1
  match i, hi with
  | 0, _ | 1, _ | 2, _ | 3, _ | 4, _ | 5, _ => cases hc; rfl
theorem sgk_tx {i : Nat} (hi : i < 6) : Tx 1 (sgk i) := by
  have key : ∀ i : Fin 6, (sgk i).length ≤ 1 ∧ PyData.strOk (sgk i) = true := by decide +kernel
  exact ⟨(key ⟨i, hi⟩).1, (key ⟨i, hi⟩).2⟩
theorem goodC_tx {c : Nat} (h : goodC c) : Tx 1 (sg1 c) := by
  simp only [goodC, List.mem_cons, List.not_mem_nil, or_false] at h
  rcases h with rfl | rfl | rfl | rfl | rfl | rfl | rfl | rfl <;> exact ⟨by decide +kernel, by decide +kernel⟩
noncomputable def cts (c : Nat) : List Int := (List.range 6).map fun i => costOf (sgk i) (sg1 c)
theorem ints_dat {led : Led} : ∀ {vs : List Value} {ns : List Int}, IntsAre vs ns → DatAll led vs (ns.map Dat.int)
  | _, _, .nil => .nil
  | _, _, .cons n t h => .cons (.int n t) (ints_dat h)
theorem ints_ok (ns : List Int) : ∀ d ∈ ns.map Dat.int, kqdOk 8 d = true := fun d hd => by
  obtain ⟨n, _, rfl⟩ := List.mem_map.mp hd
  rfl
theorem ints_inj {ns ms : List Int} (h : ns.map Dat.int = ms.map Dat.int) : ns = ms := by
  induction ns generalizing ms with
  | nil => cases ms with
    | nil => rfl
    | cons _ _ => cases h
  | cons n ns ih => cases ms with
    | nil => cases h
    | cons m ms =>
      simp only [List.map_cons, List.cons.injEq, Dat.int.injEq] at h
      rw [h.1, ih h.2]
section
variable {prog : Program} {w : World} {A : Around} {E : Value → Shared → Prop} {s : Shared} {h₀ : Heap} {L a b : Addr} {news : Led} {xs ys : List Value} {ka kb : Nat} {ns ms : List Int} {Q : Value → Shared → Prop} {r : Bool}
theorem eqI (N : News h₀ L s.heap news) (ma : (a, listOf xs.toArray ka) ∈ news) (ix : IntsAre xs ns) (mb : (b, listOf ys.toArray kb) ∈ news) (iy : IntsAre ys ms) (hu : A.units + 64 < cLine) (hr : ns = ms ↔ r = true) (h : Q (.bool r) s) :
    wpAny (model prog w) A (compareOp .Eq (.ref a) (.ref b)) Q E s :=
  eqL N ma (ints_dat ix) mb (ints_dat iy) (ints_ok _) (ints_ok _) hu ⟨fun e => hr.mp (ints_inj e), fun e => by rw [hr.mpr e]⟩ h
theorem neI (N : News h₀ L s.heap news) (ma : (a, listOf xs.toArray ka) ∈ news) (ix : IntsAre xs ns) (mb : (b, listOf ys.toArray kb) ∈ news) (iy : IntsAre ys ms) (hu : A.units + 64 < cLine) (hr : ¬ ns = ms ↔ r = true) (h : Q (.bool r) s) :
    wpAny (model prog w) A (compareOp .NotEq (.ref a) (.ref b)) Q E s :=
  neL N ma (ints_dat ix) mb (ints_dat iy) (ints_ok _) (ints_ok _) hu ⟨fun e => hr.mp fun q => e (by rw [q]), fun e q => hr.mpr e (ints_inj q)⟩ h
end
theorem perm_sorted {ns ms ks : List Int} (h : ns.Perm ms) (hm : ms.Perm ks) (hs : ns.Pairwise (· ≤ ·)) (hk : ks.Pairwise (· ≤ ·)) : ns = ks :=
  List.Perm.eq_of_pairwise (fun _ _ _ _ => Int.le_antisymm) hs hk (h.trans hm)
theorem cts_perm {j : Nat} (hj : j < 6) : (cts (chk j)).Perm [0, 1, 2, 2, 2, 2] := by
  match j, hj with
  | 0, _ | 1, _ | 2, _ | 3, _ | 4, _ | 5, _ => decide +kernel
theorem cts_no {c : Nat} (h : c = 67 ∨ c = 46) : cts c = [2, 2, 2, 2, 2, 2] := by
  rcases h with rfl | rfl <;> decide +kernel
theorem cts_idx {j : Nat} (hj : j < 6) : (cts (chk j)).idxOf 0 = j ∧ (cts (chk j)).idxOf 1 = opp j := by
  match j, hj with
  | 0, _ | 1, _ | 2, _ | 3, _ | 4, _ | 5, _ => decide +kernel
theorem goodC_cases {c : Nat} (h : goodC c) : (∃ j, j < 6 ∧ c = chk j) ∨ (c = 67 ∨ c = 46) := by
  simp only [goodC, List.mem_cons, List.not_mem_nil, or_false] at h
  rcases h with rfl | rfl | rfl | rfl | rfl | rfl | h
  · exact .inl ⟨0, by decide, by decide +kernel⟩
  · exact .inl ⟨1, by decide, by decide +kernel⟩
  · exact .inl ⟨2, by decide, by decide +kernel⟩
  · exact .inl ⟨3, by decide, by decide +kernel⟩
  · exact .inl ⟨4, by decide, by decide +kernel⟩
  · exact .inl ⟨5, by decide, by decide +kernel⟩
  · exact .inr h
theorem cts_lay {j : Nat} (hj : j < 6) : PyData.layable0 (.list ((cts (chk j)).map .int)) = true := by
  match j, hj with
  | 0, _ | 1, _ | 2, _ | 3, _ | 4, _ | 5, _ => decide +kernel
theorem cts_mem {j : Nat} (hj : j < 6) : (0 : Int) ∈ cts (chk j) ∧ (1 : Int) ∈ cts (chk j) := by
  match j, hj with
  | 0, _ | 1, _ | 2, _ | 3, _ | 4, _ | 5, _ => decide +kernel
theorem opp_lt {j : Nat} (hj : j < 6) : opp j < 6 := by unfold opp; split <;> omega
section
variable {prog : Program} {w : World} {A : Around} {E : Value → Shared → Prop} {s : Shared} {h₀ : Heap} {L D : Addr} {news : Led} {ys : List Value} {n j : Nat} {t : Tok} {Q : Value → Shared → Prop}
theorem idx0 (N : News h₀ L s.heap news := by k_asm) (hi : IntsAre ys (cts (chk j)) := by assumption) (hj : j < 6 := by assumption) (hm : (D, listOf ys.toArray n) ∈ news := by k_mem) (h : ∀ u tk, Q (.int (j : Int) u) { s with toks := tk }) : wpAny (model prog w) A (call (.builtin "list.index") [.ref D, .int 0 t]) Q E s := by
  refine index_list_ints (PySem.IsL.isList (N _ hm).1) hi (cts_lay hj) (cts_mem hj).1 ?_
  rw [(cts_idx hj).1]; exact h _ _
theorem idx1 (N : News h₀ L s.heap news := by k_asm) (hi : IntsAre ys (cts (chk j)) := by assumption) (hj : j < 6 := by assumption) (hm : (D, listOf ys.toArray n) ∈ news := by k_mem) (h : ∀ u tk, Q (.int (opp j : Int) u) { s with toks := tk }) : wpAny (model prog w) A (call (.builtin "list.index") [.ref D, .int 1 t]) Q E s := by
  refine index_list_ints (PySem.IsL.isList (N _ hm).1) hi (cts_lay hj) (cts_mem hj).2 ?_
  rw [(cts_idx hj).2]; exact h _ _
end
theorem read_end {h₀ h' : Heap} {L I l Lc : Addr} {oI oc' : Obj} {s₁ : Shared} {m' : Str → Option Value} {all inner' : Led} {ol : Obj} {tk : Nat} {rest : (Str → Option Value) → Led → Prop} (F : Fr h₀ L h' m') (N : News h₀ L h' all) (h1 : (I, oI) ∈ all)
    (h2 : (l, ol) ∈ all) (h3 : (Lc, oc') ∈ all) (h4 : ∀ p ∈ inner', p ∈ all) (hI : oI.cls = .type "str_ascii_iterator") (h5 : ∀ p ∈ inner', p.2.cls = .type "tuple") (hl : l < I) (hLc : Lc < I) (J : rest m' ((l, ol) :: (Lc, oc') :: inner')) :
    UnrEndW h₀ L s₁ [(I, oI)] rest { s₁ with heap := h', toks := tk } := by
  refine ⟨h', tk, m', _, rfl, F, fun p hp => ?_, fun p hp q hq e => ?_, J⟩
  · simp only [List.cons_append, List.nil_append, List.mem_cons] at hp
    rcases hp with rfl | rfl | rfl | hp
    · exact N _ h1
    · exact N _ h2
    · exact N _ h3
    · exact N _ (h4 p hp)
  · rw [List.mem_singleton.mp hq] at e
    simp only [List.mem_cons] at hp
    rcases hp with rfl | rfl | hp
    · exact Nat.ne_of_lt hl e
    · exact Nat.ne_of_lt hLc e
    · have e1 := (N p (h4 p hp)).1
      have e2 := (N _ h1).1
      have e' : p.1 = I := e
      rw [e'] at e1
      have e3 : p.2 = oI := Option.some.inj (e1.symm.trans e2)
      have := h5 p hp
      rw [e3, hI] at this
      injection this with h9
      exact absurd h9 (by decide)
theorem read_end2 {h₀ h' : Heap} {L I l Lc : Addr} {oI oc' : Obj} {s₁ : Shared} {m' : Str → Option Value} {q : Addr × Obj} {r inner : Led} {ol : Obj} {tk : Nat} {rest : (Str → Option Value) → Led → Prop} (F : Fr h₀ L h' m') (N : News h₀ L h' (q :: r)) (h1 : (I, oI) ∈ q :: r)
    (h2 : (l, ol) ∈ q :: r) (h3 : (Lc, oc') ∈ q :: r) (h4 : ∀ p ∈ inner, p ∈ q :: r) (hI : oI.cls = .type "str_ascii_iterator") (h5 : ∀ p ∈ q :: inner, p.2.cls = .type "tuple") (hl : l < I) (hLc : Lc < I) (J : rest m' ((l, ol) :: (Lc, oc') :: q :: inner)) :
    UnrEndW h₀ L s₁ [(I, oI)] rest { s₁ with heap := h', toks := tk } :=
  read_end (inner' := q :: inner) F N h1 h2 h3 (fun p hp => by
    rcases List.mem_cons.mp hp with rfl | hp
    · exact List.mem_cons_self ..
    · exact h4 p hp) hI h5 hl hLc J
theorem short_line {n : Nat} (h : n ≤ 64) : n ≤ sizeLine := by rw [sizeLine_eq]; omega
theorem readOf_chk {j : Nat} (hj : j < 6) (r : List Nat) : readOf (chk j :: r) = j :: readOf r := by
  match j, hj with
  | 0, _ | 1, _ | 2, _ | 3, _ | 4, _ | 5, _ => rfl
theorem readOf_no {c : Nat} (h : c = 67 ∨ c = 46) (r : List Nat) : readOf (c :: r) = readOf r := by
  rcases h with rfl | rfl <;> rfl
theorem newsNil {h₀ h : Heap} {L : Addr} {news : Led} (N : News h₀ L h ([] ++ news)) : News h₀ L h news := N
theorem c_costN (w : World) (news : Led) (x y : Str) (tx ty : Tok) (n : Int) (hx : Tx 1 x) (hy : Tx 1 y) (hn : costOf x y = n) : Con w 42 news [.str x tx, .str y ty] 1 (OutI n) := hn ▸ c_cost w news x y tx ty hx hy
section
local macro_rules | `(tactic| walk_at "exec For Name Name cons nil") => `(tactic| (k_here; refine hold_in ?_))
local macro_rules | `(tactic| walk_at "exec For Name Name") => `(tactic| (k_here; refine hold_in ?_))
local macro_rules | `(tactic| walk_at "pyIter str") => `(tactic| (k_here; refine hold_in ?_))
local macro_rules | `(tactic| walk_at "call ref") => `(tactic| (k_here; (try dsimp only); (show wpAny _ _ (call (Value.ref 42) [Value.str _ _, Value.str _ _]) _ _ _); k_dflt (refine' (c_costN _ _ _ _ _ _ _ ?c1 ?c2 ?c3).use _ _ _ _ _ _ _ _ _ _ _ _ _ _ _ _ _ _ _ _ _ ?cB ?cF ?cX ?cN ?cT ?cK ?cD ?cU ?_; (case cB => k_asm); (case cF => k_asm); (case cX => k_asm); (case cN => k_asm); (case cT => k_asm); (case cK => exact rfl); (case cD => ktr_room); (case cU => units_room); (case c1 => exact sgk_tx (by assumption)); (case c2 => exact goodC_tx (by assumption)); (case c3 => exact rfl); intro v' new' h' tk' F' N' o' hD'; (obtain ⟨hn', t', hv'⟩ := hD'); subst hn'; subst hv'; clear o'); (replace N' := newsNil N'); (try k_sweep)))
local macro_rules | `(tactic| walk_at "exec Assign cons ListComp") => `(tactic| (k_here; k_dflt (refine Assign_ListComp_S (F₀ := by k_asm) (by rfl) (by with_unfolding_all rfl) (by rfl) (by decide) (by rfl) (by decide) (by rfl) (by rfl) (by rfl) ?_)))
local macro_rules | `(tactic| walk_at "SRC") => `(tactic| (k_dflt (refine CompSrcS.text (by decide +kernel) (by rfl) (by k_asm) (by k_asm) (by decide +kernel) ?_); intro g'; (show LCg.CompRest _ _ _ _ _ _ _ _ _ _ _ _ _ _ _ 6 0 [] _)))
local macro_rules | `(tactic| walk_at "CompRest") => `(tactic| refine hold_in ?_)
local macro_rules | `(tactic| walk_at "CompRestT") => `(tactic| refine hold_in ?_)
local macro_rules | `(tactic| walk_at "CompEnd") => `(tactic| (k_dflt (refine LCg.CompEnd.intro (by (rename Fr _ _ _ _ => lF9); exact lF9) (by (rename News _ _ _ _ => lN9); exact lN9) _ (fun _ h => h) (by first | assumption | (simp only [LCg.Off3, and_true]; done) | (simp only [LCg.Off3, and_true]; assumption)) (by first | exact True.intro | exact Or.inr ⟨_, by k_mem, rfl, _, rfl⟩ | exact Or.inl (by assumption)) ?_)))
local macro_rules | `(tactic| walk_at "eval ListComp") => `(tactic| (k_here; k_dflt (refine LCt.ListComp_T (F₀ := by k_asm) (by with_unfolding_all rfl) (by decide) (by rfl) (by decide) (by rfl) ?_)))
local macro_rules | `(tactic| walk_at "CompSrcT") => `(tactic| (k_here; k_dflt (refine LCt.CompSrcT.ledger (by exact rfl) (by k_asm) (by (rename News _ _ _ _ => lN9); exact lN9) (by k_mem) (by first | size_fits | exact Nat.le_of_ble_eq_true rfl) ?_); intro g'; skip))
local macro_rules | `(tactic| walk_at "call builtin:sorted") => `(tactic| (k_here; refine hold_in ?_))
local macro_rules | `(tactic| walk_at "call builtin:list.append") => `(tactic| (k_here; (try dsimp only); (show wpAny _ _ (call (Value.builtin "list.append") [Value.ref _, _]) _ _ _); k_dflt (refine append_K (by k_asm) (by k_asm) (by k_upd) ?_ (by (simp only [List.size_toArray]; exact short_line (by assumption)))); intro h' F' N'; (try k_sweep)))
local macro_rules | `(tactic| walk_at "call builtin:list.index") => `(tactic| (k_here; k_dflt (first | (refine idx0 (h := ?_)) | (refine idx1 (h := ?_))); intro t' tk'))
local macro_rules | `(tactic| walk_at "compareOp NotEq ref ref") => `(tactic| (k_here; (fail_if_success (with_reducible show wpAny _ _ (compareOp _ (Value.ref _) (Value.ref _)) _ _ _; (rename News _ _ _ ((_, W.listOf #[] _) :: _) => zN))); refine hold_in ?_))
local macro_rules | `(tactic| walk_at "compareOp Eq ref ref") => `(tactic| (k_here; refine hold_in ?_))
theorem c_read (w : World) (news : Led) (x : Str) (tx : Tok) (ha : x.cps.all (· < 128) = true) (hx : x.cps.size ≤ 3) (hg : ∀ c ∈ x.cps.toList, goodC c) : Con w 76 news [.str x tx] 2 (fun new v => DatIn new v (.list ((readOf x.cps.toList).map prD))) := by
  have hs : ∀ p ∈ ([] : Led), p ∈ news := by simp
  walk_at "BODYC"
  refine Hold.out ?_
  (rename Fr _ _ _ _ => lF)
  refine For_turns lF ?_ (by intro _; rfl) (by passes_own)
  k_steps
  try refine Hold.out ?_
  (rename Fr _ _ _ _ => lF); (rename News _ _ _ _ => lN)
  k_dflt (refine' iter_str (JRead (readOf x.cps.toList)) ?F ?N ?hh ?ha ?j ?turn ?done)
  case F => exact lF
  case N => exact lN
  case hh => rfl
  case ha => assumption
  case j => exact ⟨_, _, _, _, _, _, [], _, [], [], _, rfl, names1 _, rfl, by intro p hp; simp at hp, by assumption, .nil, rfl, hg, by simpa using hx⟩
  case turn =>
    clear lF lN
    rintro c r m nw ⟨q, l, Lc, o0, oc0, oc, vs, cc, inner, ks, xc, hn, rfl, rfl, hin, hoc, hvs, hks, hgd, hlen⟩ I t h tk oI l1 hI F N
    injection hn with e1 e2
    injection e1 with e3 e4
    injection e2 with e5 e6
    injection e5 with e7 e8
    subst e4 e8 e7
    obtain rfl := e3.symm
    clear e6
    k_lt l1
    have off1 : ∀ p ∈ inner, p.1 ≠ _ := fun p hp => (hin p hp).2.1
    have off2 : ∀ p ∈ inner, p.1 ≠ _ := fun p hp => (hin p hp).2.2
    have lI := l1
    have hc : goodC c := hgd c (List.mem_cons_self ..)
    have hvl : vs.length ≤ 64 := by have := hvs.length; simp only [List.length_map] at this; omega
    (try dsimp only)
    (try walk_at "FOLD")
    k_steps
    walk_at "SRC"
    refine compRest_ints (fun i => costOf (sgk i) (sg1 c)) (fun i ys v I' oI' C' oC' D' m' h' tk' E' hi hv hC hx F' N' off ne => ?_) (fun ys hys => ?_)
    · obtain ⟨u, rfl⟩ := sign_lit hi hv
      clear F N
      (simp only [LCg.Off3, and_true] at off)
      k_steps
    · clear F N
      k_steps
      refine Hold.out ?_
      refine compRestT_none (fun i v I' oI' C' oC' D' m' h' tk' E' hi hv hC hx F' N' off ne => ?_) ?_
      · obtain ⟨n, t9, rfl⟩ := ints_get hys hv
        (simp only [LCg.Off3, and_true] at off)
        k_sweep
        k_steps
      · k_steps
        refine Hold.out ?_
        (rename Fr _ _ _ _ => lF); (rename News _ _ _ _ => lN)
        k_dflt (refine' kso_sorted lF lN (PySem.IsL.isList (n := ys.length) (lN (_, LCg.lst ys) (by k_mem)).1) hys (by simp) (fun D vs' ns' c' h' F' N' lt i' e' p' o' b' => ?_))
        clear lF lN e' b'
        k_lt lt
        k_steps
        refine Hold.out ?_
        (rename Fr _ _ _ _ => lF); (rename News _ _ _ _ => lN)
        rcases goodC_cases hc with ⟨j, hj, rfl⟩ | hc'
        · have hj2 := opp_lt hj
          have hys : IntsAre ys (cts (chk j)) := hys
          refine eqI (r := true) lN (by k_mem) i' (by k_mem) (.cons _ _ (.cons _ _ (.cons _ _ (.cons _ _ (.cons _ _ (.cons _ _ .nil)))))) (by units_room) ⟨fun _ => rfl, fun _ => perm_sorted p' (cts_perm hj) o' (by decide)⟩ ?_
          clear i' p' o'
          k_steps
          (rename Fr _ _ _ _ => lF); (rename News _ _ _ _ => lN)
          simp only [List.push_toArray] at lN
          refine' read_end2 (inner := inner) (l := l) (ol := listOf (vs ++ [_]).toArray (cc + 1)) lF lN ?h1 ?h2 ?h3 ?h4 hI ?h5 ?hl ?hLc ⟨trivial, ?J⟩
          case h2 => k_mem
          case J =>
            refine ⟨_, _, _, _, _, _, vs ++ [_], _, _ :: inner, ks ++ [j], _, rfl, names1' _, rfl, ?_, by assumption, by rw [List.map_append]; exact DatAll.append (DatAll.mono (fun p hp => List.mem_cons_of_mem _ hp) hvs) (DatAll.one (.tuple (List.mem_cons_self ..) (.cons (.str _ _) (.cons (.str _ _) .nil)))), ?_, fun c hc => hgd c (List.mem_cons_of_mem _ hc), ?_⟩
            · intro p hp
              rcases List.mem_cons.mp hp with rfl | hp
              · exact ⟨rfl, by k_ne, by k_ne⟩
              · exact hin p hp
            · rw [← hks, readOf_chk hj]; simp
            · simp only [List.length_cons, List.length_append, List.length_nil] at *; omega
          case h1 => k_mem
          case h3 => k_mem
          case h4 => intro p hp; simp only [List.mem_cons, hp, or_true]
          case h5 =>
            intro p hp
            rcases List.mem_cons.mp hp with rfl | hp
            · rfl
            · exact (hin p hp).1
          case hl => exact lI.1
          case hLc => exact lI.2
        · have hcs : cts c = [2, 2, 2, 2, 2, 2] := cts_no hc'
          refine eqI (r := false) lN (by k_mem) i' (by k_mem) (.cons _ _ (.cons _ _ (.cons _ _ (.cons _ _ (.cons _ _ (.cons _ _ .nil)))))) (by units_room) ⟨fun e => absurd (e ▸ p') (by show ¬ List.Perm _ (cts _); rw [cts_no hc']; decide), fun e => nomatch e⟩ ?_
          clear i' p' o'
          k_steps
          refine Hold.out ?_
          (rename Fr _ _ _ _ => lF); (rename News _ _ _ _ => lN)
          refine neI (r := false) lN (by k_mem) hys (by k_mem) (.cons _ _ (.cons _ _ (.cons _ _ (.cons _ _ (.cons _ _ (.cons _ _ .nil)))))) (by units_room) ⟨fun e => absurd hcs e, fun e => nomatch e⟩ ?_
          k_steps
          (rename Fr _ _ _ _ => lF); (rename News _ _ _ _ => lN)
          refine' read_end (inner' := inner) (l := l) (ol := listOf vs.toArray cc) lF lN ?h1 ?h2 ?h3 ?h4 hI ?h5 ?hl ?hLc ⟨trivial, ?J⟩
          case J =>
            refine ⟨_, _, _, _, _, _, vs, _, inner, ks, _, rfl, names1' _, rfl, ?_, by assumption, hvs, ?_, fun c hc => hgd c (List.mem_cons_of_mem _ hc), ?_⟩
            · exact hin
            · rw [← hks, readOf_no hc']
            · simp only [List.length_cons] at hlen; omega
          case h1 => k_mem
          case h2 => k_mem
          case h3 => k_mem
          case h4 => intro p hp; simp only [List.mem_cons, hp, or_true]
          case h5 => exact fun p hp => (hin p hp).1
          case hl => exact lI.1
          case hLc => exact lI.2
  case done =>
    clear lF lN
    rintro m nw ⟨q, l, Lc, o0, oc0, oc, vs, cc, inner, ks, xc, hn, rfl, rfl, hin, hoc, hvs, hks, hgd, hlen⟩ h tk F N
    injection hn with e1 e2
    injection e1 with e3 e4
    injection e2 with e5 e6
    injection e5 with e7 e8
    subst e4 e8 e7
    obtain rfl := e3.symm
    clear e6
    have hks : ks = readOf x.cps.toList := by rw [← hks]; simp [readOf]
    (try dsimp only)
    (try walk_at "FOLD")
    k_steps
    rw [← hks]
    refine ⟨(l, listOf vs.toArray cc) :: inner, ?_, (fun p _ q hq => absurd hq List.not_mem_nil), DatIn.list (List.mem_cons_self ..) (DatAll.mono (fun p hp => List.mem_cons_of_mem _ hp) hvs)⟩
    intro p hp
    rcases List.mem_cons.mp hp with rfl | hp
    · k_mem
    · simp only [List.mem_cons, hp, or_true]
end

section
open LCg
variable {prog : Program} {w : World} {A : Around} {E : Value → Shared → Prop} {s : Shared} {h₀ : Heap} {L : Addr} {m : Str → Option Value} {env : Env} {news : Led}
/-- a new zip over two lists of the ledger's -/
inductive ZAt (h₀ : Heap) (L : Addr) (h : Heap) (z l1 l2 : Addr) (news : Led) : Prop
  | mk (TI) (TO) (i1) (i2) (_ : ZipApart z TI TO i1 i2 l1 l2) (_ : IsZip h z TI TO .none) (_ : IsPair h TI (.ref i1) (.ref i2)) (_ : IsPair h TO .none .none) (_ : h.IsListIter i1 l1 0) (_ : h.IsListIter i2 l2 0) (_ : ∀ b ∈ [z, TI, TO, i1, i2], @Ne Nat b L ∧ h₀.get? b = none ∧ ∀ p ∈ news, @Ne Nat p.1 b) : ZAt h₀ L h z l1 l2 news
theorem zip_new {l1 l2 : Addr} {xs zs : List Value} {n1 n2 : Nat} {Q : Value → Shared → Prop} (F : Fr h₀ L s.heap m) (N : News h₀ L s.heap news) (m1 : (l1, listOf xs.toArray n1) ∈ news) (m2 : (l2, listOf zs.toArray n2) ∈ news)
    (h : ∀ z h', Fr h₀ L h' m → News h₀ L h' news → ZAt h₀ L h' z l1 l2 news → Q (.ref z) { s with heap := h' }) : wpAny (model prog w) A (call (.type "zip") [.ref l1, .ref l2]) Q E s := by
  have g1 := (N _ m1).1
  have g2 := (N _ m2).1
  have b1 : @LT.lt Nat _ l1 s.heap.objs.size := Heap.lt_size g1
  have b2 : @LT.lt Nat _ l2 s.heap.objs.size := Heap.lt_size g2
  refine call_zip_2 (PySem.IsL.isList (n := n1) g1) (PySem.IsL.isList (n := n2) g2) fun h' hz hTI hTO h1 h2 hsz hk => ?_
  refine h _ h' (F.keeps hk) (N.grown hk) ⟨s.heap.objs.size + 2, s.heap.objs.size + 3, s.heap.objs.size, s.heap.objs.size + 1, ?_, hz, hTI, hTO, h1, h2, fun b hb => ?_⟩
  · constructor <;> first | (intro e; have e' : (_ : Nat) = _ := e; omega) | (exact Nat.ne_of_lt (by omega))
  · have hb' : s.heap.objs.size ≤ b := by
      simp only [List.mem_cons, List.not_mem_nil, or_false] at hb
      rcases hb with rfl | rfl | rfl | rfl | rfl <;> first | exact Nat.le_refl _ | exact Nat.le_add_right _ _
    have hL : @LT.lt Nat _ L s.heap.objs.size := F.ns.lt
    refine ⟨Nat.ne_of_gt (Nat.lt_of_lt_of_le hL hb'), ?_, fun p hp => Nat.ne_of_lt (Nat.lt_of_lt_of_le (Heap.lt_size (N p hp).1) hb')⟩
    cases e : h₀.get? b with
    | none => rfl
    | some o => exact absurd (Heap.lt_size (F.keep b o e)) (Nat.not_lt.mpr hb')
/-- a turn's end -/
inductive ZEnd (h₀ : Heap) (L : Addr) (m : Str → Option Value) (s : Shared) (its : Led) (C : Addr) (oC : Obj) (D : Addr) (oD : Obj) (keep : Led) (rest : Value → Led → Prop) (y : Value) (s₂ : Shared) : Prop
  | mk (h') (tk) (nw) (_ : s₂ = { s with heap := h', toks := tk }) (_ : Fr h₀ L h' m) (_ : News h₀ L h' ((C, oC) :: (D, oD) :: (its ++ nw))) (_ : (∀ p ∈ nw, (∀ q ∈ its, @Ne Nat p.1 q.1) ∧ @Ne Nat p.1 C ∧ @Ne Nat p.1 D)) (_ : (∀ p ∈ keep, p ∈ nw)) (_ : rest y nw) : ZEnd h₀ L m s its C oC D oD keep rest y s₂
noncomputable def ifsOf : Option Expr → List Expr
  | none => []
  | some c => [c]
noncomputable def Tst (M : Model) (A : Around) (env : Env) (E : Value → Shared → Prop) (t : Option Expr) (P : Bool → Shared → Prop) (s : Shared) : Prop :=
  match t with
  | none => P true s
  | some c => wpAny M A (isTrue c env (eval c env)) P E s
theorem Tst.mono {M : Model} {E₁ E₂ : Value → Shared → Prop} {t : Option Expr} {P₁ P₂ : Bool → Shared → Prop} (h : Tst M A env E₁ t P₁ s) (k : ∀ b s, P₁ b s → P₂ b s) (e : ∀ x s, E₁ x s → E₂ x s) : Tst M A env E₂ t P₂ s := by
  cases t with
  | none => exact k _ _ h
  | some c => exact wpAny_mono h k e
theorem z_loop {elt target iter : Expr} {scope : Scope} {pos : Pos} {it acc : Value} {R : Result → Shared → Prop} (t : Option Expr) (I : Nat → Shared → Prop)
    (turn : ∀ n s, I n s → wpAny (model prog w) A (pyNext it) (fun r s₁ => match r with
      | none => R (.ok .next) s₁
      | some v => wpAny (model prog w) A (letOwnedTupleGo target it v) (fun _ s₀ => wpAny (model prog w) A (assign target env v) (fun _ s₂ =>
          Tst (model prog w) A env (notedBy (model prog w) A env fun e s' => R (.error e) s') t (fun ok s₃ => if ok = true then wpAny (model prog w) A (eval elt env) (fun x s₄ =>
            wpAny (model prog w) A (call (.builtin "list.append") [acc, x]) (fun _ s₅ => ∃ m, m < n ∧ I m s₅) (notedBy (model prog w) A env fun e s' => R (.error e) s') s₄) (notedBy (model prog w) A env fun e s' => R (.error e) s') s₃
            else ∃ m, m < n ∧ I m s₃) s₂)
          (notedBy (model prog w) A env fun e s' => R (.error e) s') s₀) (notedBy (model prog w) A env fun e s' => R (.error e) s') s₁) (notedBy (model prog w) A env fun e s' => R (.error e) s') s)
    (n : Nat) (h : I n s) : codeAny (model prog w) A (.compLoop (.ListComp elt [⟨target, iter, ifsOf t, 0⟩] scope pos) 0 it acc env) R s := by
  cases t with
  | none =>
    refine kcp_loop I (fun n s hI => wpAny_mono (turn n s hI) (fun r s₁ h₁ => ?_) fun _ _ e => e) n h
    cases r with
    | none => exact h₁
    | some v => exact wpAny_mono h₁ (fun _ s₀ h₀ => wpAny_mono h₀ (fun _ s₂ h₂ => by have h₃ := h₂; unfold Tst at h₃; simpa using h₃) fun _ _ e => e) fun _ _ e => e
  | some c =>
    refine kct_loop I (fun n s hI => wpAny_mono (turn n s hI) (fun r s₁ h₁ => ?_) fun _ _ e => e) n h
    cases r with
    | none => exact h₁
    | some v => exact h₁
end
section
open LCg
variable {prog : Program} {w : World} {A : Around} {E : Value → Shared → Prop} {s : Shared} {h₀ : Heap} {L : Addr} {m : Str → Option Value} {env : Env}
/-- what a turn of the comprehension must show -/
noncomputable def ZElem (prog : Program) (w : World) (A : Around) (h₀ : Heap) (L : Addr) (m : Str → Option Value) (env : Env) (elt : Expr) (t : Option Expr) (x x₂ : Str) (scope : Scope) (cl : List (Str × Addr)) (s₁ : Shared) (xs zs : List Value) (keep : Led) (K : Nat → List Value → Led → Prop) : Prop :=
  ∀ i ys nw v₁ v₂ (its : Led) C oC D m₂ h tk (E' : Value → Shared → Prop), i < xs.length → K i ys nw → xs[i]? = some v₁ → zs[i]? = some v₂ → NsObj oC m₂ → m₂ x = some v₁ → m₂ x₂ = some v₂ → Fr h₀ L h m → News h₀ L h ((C, oC) :: (D, lst ys) :: (its ++ nw)) →
    (∀ p ∈ nw, (∀ q ∈ its, @Ne Nat p.1 q.1) ∧ @Ne Nat p.1 C ∧ @Ne Nat p.1 D) → @Ne Nat C D → (∀ p ∈ keep, p ∈ nw) →
    Tst (model prog w) A (compEnvC scope cl C env) E' t (fun ok s' => if ok = true then wpAny (model prog w) A (eval elt (compEnvC scope cl C env)) (ZEnd h₀ L m s₁ its C oC D (lst ys) keep (fun y nw' => K (i + 1) (ys ++ [y]) nw')) E' s'
      else ZEnd h₀ L m s₁ its C oC D (lst ys) keep (fun _ nw' => K (i + 1) ys nw') .none s') { s₁ with heap := h, toks := tk }
inductive ZSrc (prog : Program) (w : World) (A : Around) (h₀ : Heap) (L : Addr) (m : Str → Option Value) (env : Env) (elt : Expr) (t : Option Expr) (x x₂ : Str) (scope : Scope) (cl : List (Str × Addr)) (y : Str) (Q : Flow → Shared → Prop) (xv : Value) (s₁ : Shared) : Prop
  | mk (z) (l1) (l2) (xs) (zs) (n1) (n2) (news) (_ : xv = .ref z) (_ : A.handled = none) (_ : Fr h₀ L s₁.heap m) (_ : News h₀ L s₁.heap news) (_ : (l1, listOf (List.toArray xs) n1) ∈ news) (_ : (l2, listOf (List.toArray zs) n2) ∈ news) (_ : ZAt h₀ L s₁.heap z l1 l2 news) (_ : xs.length = zs.length) (_ : xs.length ≤ 64) (_ : ∃ K : Nat → List Value → Led → Prop, K 0 [] news ∧ ZElem prog w A h₀ L m env elt t x x₂ scope cl s₁ xs zs [(l1, listOf (List.toArray xs) n1), (l2, listOf (List.toArray zs) n2)] K ∧ ∀ D h tk ys nw, K xs.length ys nw → Fr h₀ L h (fun z => if z = y then some (.ref D) else m z) → News h₀ L h ((D, lst ys) :: nw) → (∀ p ∈ nw, @Ne Nat p.1 D) → Q .next { s₁ with heap := h, toks := tk }) : ZSrc prog w A h₀ L m env elt t x x₂ scope cl y Q xv s₁
theorem all5 {α : Type} {P : α → Prop} {a b c d e : α} (h1 : P a) (h2 : P b) (h3 : P c) (h4 : P d) (h5 : P e) : ∀ x ∈ [a, b, c, d, e], P x := fun x hx => by
  simp only [List.mem_cons, List.not_mem_nil, or_false] at hx
  rcases hx with rfl | rfl | rfl | rfl | rfl <;> assumption
theorem all7 {α : Type} {P : α → Prop} {a b c d e f g : α} (h1 : P a) (h2 : P b) (h3 : P c) (h4 : P d) (h5 : P e) (h6 : P f) (h7 : P g) : ∀ x ∈ [a, b, c, d, e, f, g], P x := fun x hx => by
  simp only [List.mem_cons, List.not_mem_nil, or_false] at hx
  rcases hx with rfl | rfl | rfl | rfl | rfl | rfl | rfl <;> assumption
theorem sub45 {α : Type} {z a b c d : α} : ∀ x ∈ [z, b, c, d], x ∈ [z, a, b, c, d] := fun x hx => by
  simp only [List.mem_cons, List.not_mem_nil, or_false] at hx ⊢
  exact hx.imp id .inr
theorem mem57 {α : Type} {x z a b c d l m : α} (h : x ∈ [z, a, b, c, d, l, m]) : x ∈ [z, a, b, c, d] ∨ x = l ∨ x = m := by
  rcases List.mem_append.mp (show x ∈ [z, a, b, c, d] ++ [l, m] from h) with h | h
  · exact .inl h
  · simp only [List.mem_cons, List.not_mem_nil, or_false] at h
    exact .inr h
inductive ZInv (s₁ : Shared) (xs zs : List Value) (z TI TO i1 i2 l1 l2 D C L : Addr) (h₀ : Heap) (m : Str → Option Value) (n1 n2 : Nat) (K : Nat → List Value → Led → Prop) (k : Nat) (s' : Shared) : Prop
  | mk (h' : Heap) (tk i : Nat) (ys : List Value) (m' : Str → Option Value) (nw : Led) (_ : s' = { s₁ with heap := h', toks := tk }) (_ : i ≤ xs.length) (_ : k = xs.length + 1 - i) (_ : ys.length ≤ i) (_ : (IsZip h' z TI TO .none ∧ IsPair h' TI (.ref i1) (.ref i2) ∧ (∃ a b, IsPair h' TO a b) ∧ h'.IsListIter i1 l1 i ∧ h'.IsListIter i2 l2 i ∧ h'.IsList l1 xs.toArray ∧ h'.IsList l2 zs.toArray)) (_ : Fr h₀ L h' m) (_ : h'.Ns C m') (_ : News h₀ L h' ((D, lst ys) :: nw)) (_ : (∀ p ∈ nw, (∀ b ∈ [z, TI, TO, i1, i2], @Ne Nat p.1 b) ∧ @Ne Nat p.1 C ∧ @Ne Nat p.1 D)) (_ : (l1, listOf xs.toArray n1) ∈ nw) (_ : (l2, listOf zs.toArray n2) ∈ nw) (_ : K i ys nw) : ZInv s₁ xs zs z TI TO i1 i2 l1 l2 D C L h₀ m n1 n2 K k s'
theorem Assign_Zip {elt iter : Expr} {x x₂ y : Str} {px px₂ tp py : Pos} {tk0 : Nat} {scope : Scope} {cl : List (Str × Addr)} {pos spos : Pos} (t : Option Expr) {Q : Flow → Shared → Prop} (_F₀ : Fr h₀ L s.heap m) (hLe : env.locals = L)
    (hsw : swapsWith (.ListComp elt [⟨.Tuple [.Name x px, .Name x₂ px₂] tk0 tp, iter, ifsOf t, 0⟩] scope pos) (some (.Name y py)) spos.line env = pure true)
    (hclos : closureFor scope env = pure cl) (hcell : ∀ z ∈ scope.names, z.2 ≠ .cell) (hkind : scope.kind = .function)
    (hnames : ∀ z ∈ scope.names, z.2 = .local → scope.names.lookup z.1 = some .local) (hx : scope.names.lookup x = some .local) (hx₂ : scope.names.lookup x₂ = some .local) (hxx : x ≠ x₂)
    (hy : env.kindOf y = some .local) (hp : (env.scope.kind == .class || (env.scope.kind == .module && env.locals != env.globals)) = false)
    (h : wpAny (model prog w) A (eval iter env) (ZSrc prog w A h₀ L m env elt t x x₂ scope cl y Q) E s)
    (hs : ∀ x, foldedSetIterable iter env x = pure x := by intro _; rfl) :
    wpAny (model prog w) A (exec (.Assign [.Name y py] (.ListComp elt [⟨.Tuple [.Name x px, .Name x₂ px₂] tk0 tp, iter, ifsOf t, 0⟩] scope pos) spos) env) Q E s := by
  subst hLe
  rw [exec_Assign_Name_used _ _ _ _ hsw]
  refine wpAny_bind (wpAny_standAt (wpAny_bind ?_))
  show wpAny _ A (do let _ ← comprehension (.ListComp elt [⟨.Tuple [.Name x px, .Name x₂ px₂] tk0 tp, iter, ifsOf t, 0⟩] scope pos) scope env _ (newList []) false (eval iter env) (some (assign (.Name y py) env))) _ _ s
  refine wpAny_bind (wpAny_mono (wpAny_comprehension_free (use := some (assign (.Name y py) env)) (Q := fun _ s' => Q .next s') rfl hs hclos hkind hnames
    (wpAny_mono h (fun xv s₁ h₁ => ?_) fun _ _ e => e)) (fun _ s' hq => wpAny_pure (wpAny_pure hq)) fun _ _ e => e)
  refine foldP fun G hG => ?_
  obtain ⟨z, l1, l2, xs, zs, n1, n2, news, zr1, hh, F, N, ml1, ml2, ⟨TI, TO, i1, i2, ZA, hz, hTI, hTO, hi1, hi2, hZ⟩, hlen, h64, K, K0, elem, fin⟩ := h₁
  refine hG ?_
  clear hG G
  subst zr1
  have hn : min xs.toArray.size zs.toArray.size = xs.length := by rw [List.size_toArray, List.size_toArray, hlen, Nat.min_self]
  have W := hn ▸ WalksT.zip2 (prog := prog) (w := w) hh z TI TO i1 i2 l1 l2 ZA xs.toArray zs.toArray
  have hL1 : s₁.heap.IsList l1 xs.toArray := PySem.IsL.isList (n := n1) (N _ ml1).1
  have hL2 : s₁.heap.IsList l2 zs.toArray := PySem.IsL.isList (n := n2) (N _ ml2).1
  refine wpAny_pyIter_zip hz ?_
  refine wpAny_newObj_type (wpAny_newFunctionEnv hcell (by intro y hy; simp at hy) (fun h₁ hns₁ hsb₁ => ?_) hkind)
  dsimp only at hns₁ hsb₁ ⊢
  generalize hH2 : s₁.heap.push { cls := .type "list", dict := none, data := .seq ([] : List Value).toArray } = H2 at hns₁ hsb₁ ⊢
  have hC : H2.objs.size = s₁.heap.objs.size + 1 := by rw [← hH2, Heap.size_push]
  have old : ∀ b o, s₁.heap.get? b = some o → h₁.get? b = some o := fun b o e => by
    have hb : @LT.lt Nat _ b s₁.heap.objs.size := Heap.lt_size e
    refine hsb₁.extBut b o (fun q => ?_) (Heap.get?_push_of_some _ (hH2 ▸ Heap.get?_push_of_some _ e))
    have q' : @Eq Nat b H2.objs.size := q
    omega
  have hacc : h₁.get? s₁.heap.objs.size = some (lst []) := hsb₁.extBut _ _ (by intro q; have q' : s₁.heap.objs.size = H2.objs.size := q; omega) (Heap.get?_push_of_some _ (hH2 ▸ Heap.get?_push_size _ rfl))
  have fresh₀ : ∀ a : Nat, s₁.heap.objs.size ≤ a → h₀.get? a = none := fun a ha => by
    cases e : h₀.get? a with
    | none => rfl
    | some o' => exact absurd (Heap.lt_size (F.keep a o' e)) (Nat.not_lt.mpr ha)
  have hLlt : @LT.lt Nat _ env.locals s₁.heap.objs.size := F.ns.lt
  have nlt : ∀ p ∈ news, @LT.lt Nat _ p.1 s₁.heap.objs.size := fun p hp => Heap.lt_size (N p hp).1
  have hz' := Heap.lt_size hz
  have hTI' := Heap.lt_size hTI
  have hTO' := Heap.lt_size hTO
  have hi1' : @LT.lt Nat _ i1 s₁.heap.objs.size := by obtain ⟨o, e, _⟩ := hi1; exact Heap.lt_size e
  have hi2' : @LT.lt Nat _ i2 s₁.heap.objs.size := by obtain ⟨o, e, _⟩ := hi2; exact Heap.lt_size e
  have itlt : ∀ b ∈ [z, TI, TO, i1, i2], @LT.lt Nat _ b s₁.heap.objs.size := all5 hz' hTI' hTO' hi1' hi2'
  have fpl : ∀ b ∈ [z, TI, TO, i1, i2, l1, l2], @LT.lt Nat _ b s₁.heap.objs.size := all7 hz' hTI' hTO' hi1' hi2' (nlt _ ml1) (nlt _ ml2)
  have wrs : ∀ b ∈ [z, TO, i1, i2], b ∈ [z, TI, TO, i1, i2] := sub45
  have st0 : ∀ b ∈ [z, TI, TO, i1, i2, l1, l2], ∀ o, s₁.heap.get? b = some o → h₁.get? b = some o := fun b _ o e => old b o e
  have stA := W.frame 0 s₁.heap h₁ ⟨hz, hTI, ⟨_, _, hTO⟩, hi1, hi2, hL1, hL2⟩ st0
  generalize eD : s₁.heap.objs.size = D at *
  generalize eC : H2.objs.size = C at *
  have hxk : (compEnvC scope cl C env).kindOf x = some .local := lookup_relabel_local hx
  have hxk₂ : (compEnvC scope cl C env).kindOf x₂ = some .local := lookup_relabel_local hx₂
  have hCD : @Ne Nat C D := by omega
  have hCL : @Ne Nat C env.locals := by omega
  have hDL : @Ne Nat D env.locals := by omega
  have hC₀ : h₀.get? C = none := fresh₀ _ (by omega)
  have hD₀ : h₀.get? D = none := fresh₀ _ (by omega)
  have loop : ∀ s₃ : Shared, s₃ = { s₁ with heap := h₁, toks := s₁.toks + ([] : List (Str × Value)).length } →
      codeAny (model prog w) A (.compLoop (.ListComp elt [⟨.Tuple [.Name x px, .Name x₂ px₂] tk0 tp, iter, ifsOf t, 0⟩] scope pos) 0 (.ref z) (.ref D) (compEnvC scope cl C env))
        (compPost (model prog w) A E (some (assign (.Name y py) env)) (fun _ s' => Q .next s') (.ref D) C) s₃ := by
    rintro s₃ rfl
    refine z_loop t
      (ZInv s₁ xs zs z TI TO i1 i2 l1 l2 D C env.locals h₀ m n1 n2 K) ?_ (xs.length + 1)
      ⟨h₁, _, 0, [], _, news, rfl, Nat.zero_le _, rfl, Nat.zero_le _, stA, F.keeps old, hns₁, fun p hp => ?_, fun p hp => ⟨fun b hb => (hZ b hb).2.2 p hp, ?_, ?_⟩, ml1, ml2, K0⟩
    · rintro k s' ⟨h', tk, i, ys, m', nw, rfl, hi, rfl, hyl, hst, F', hn', N', off, k1, k2, hK⟩
      have offw : ∀ p ∈ (D, lst ys) :: nw, p.1 ∉ [z, TO, i1, i2] := fun p hp hm => by
        rcases List.mem_cons.mp hp with rfl | hp
        · exact Nat.lt_irrefl _ (itlt _ (wrs _ hm))
        · exact (off p hp).1 _ (wrs _ hm) rfl
      have hLw : env.locals ∉ [z, TO, i1, i2] := fun hm => (hZ _ (wrs _ hm)).1 rfl
      have hCw : C ∉ [z, TO, i1, i2] := fun hm => by have := itlt _ (wrs _ hm); omega
      have frw : ∀ {h₂ : Heap}, (∀ b o, b ∉ [z, TO, i1, i2] → h'.get? b = some o → h₂.get? b = some o) → Fr h₀ env.locals h₂ m ∧ h₂.Ns C m' ∧ News h₀ env.locals h₂ ((D, lst ys) :: nw) := fun hk => by
        refine ⟨⟨F'.ns.at' fun o e => hk _ o hLw e, fun b o e => hk b o (fun hm => ?_) (F'.keep b o e), F'.above⟩, hn'.at' fun o e => hk _ o hCw e, fun p hp => ⟨hk _ _ (offw p hp) (N' p hp).1, (N' p hp).2⟩⟩
        rw [(hZ _ (wrs _ hm)).2.1] at e
        cases e
      by_cases hlt : i < xs.length
      · refine W.item i _ _ _ hlt hst fun T vals h₂ tk₂ hPt hTs htup hMid hk₂ => ?_
        refine W.go _ _ _ i T _ _ _ hMid fun h₃ hst₃ hk₃ => ?_
        refine foldP fun G hG => ?_
        obtain ⟨v₁, v₂, hv₁, hv₂, zr1⟩ := hPt
        refine hG ?_
        clear hG G
        subst zr1
        have hk23 : ∀ b o, b ∉ [z, TO, i1, i2] → h'.get? b = some o → h₃.get? b = some o := fun b o hb e => hk₃ b o hb (hk₂ b o hb e)
        obtain ⟨F₃, hn₃, N₃⟩ := frw hk23
        have htup₃ : h₃.IsTuple T #[v₁, v₂] := by
          obtain ⟨o, ho, r⟩ := htup
          exact ⟨o, hk₃ _ _ (W.apart i T _ hMid) ho, r⟩
        refine kcp_assign hh htup₃ hxk hxk₂ (by simp [compEnvC, relabel, hkind]) hn₃ fun h₄ tk₄ hn₄ hk₄ => ?_
        have hk₄' : ∀ c o, @Ne Nat c C → h₃.get? c = some o → h₄.get? c = some o := fun c o hc e => hk₄ c o hc e
        have st₄ := W.frame _ _ h₄ hst₃ (fun b hb o e => hk₄' b o (by have := fpl b hb; omega) e)
        have F₄ : Fr h₀ env.locals h₄ m := ⟨F₃.ns.at' fun o e => hk₄' _ o hCL.symm e, fun b o e => hk₄' b o (fun q => by rw [q, hC₀] at e; cases e) (F₃.keep b o e), F₃.above⟩
        have N₄ : News h₀ env.locals h₄ ((D, lst ys) :: nw) := fun p hp => ⟨hk₄' _ _ (by
          rcases List.mem_cons.mp hp with rfl | hp
          · exact hCD.symm
          · exact (off p hp).2.1) (N₃ p hp).1, (N₃ p hp).2⟩
        refine foldP fun G hG => ?_
        obtain ⟨oC, heC, hoC⟩ := ns_obj hn₄
        have st₄' := st₄
        obtain ⟨jz, jTI, ⟨ja, jb, jTO⟩, ⟨o1, j1, _⟩, ⟨o2, j2, _⟩, _, _⟩ := st₄'
        refine hG ?_
        clear hG G
        have itn : ∀ q ∈ [(z, _), (TI, _), (TO, _), (i1, o1), (i2, o2)], h₄.get? q.1 = some q.2 := List.forall_mem_cons.mpr ⟨jz, List.forall_mem_cons.mpr ⟨jTI, List.forall_mem_cons.mpr ⟨jTO, List.forall_mem_cons.mpr ⟨j1, List.forall_mem_cons.mpr ⟨j2, by simp⟩⟩⟩⟩⟩
        generalize hits : [(z, _), (TI, _), (TO, _), (i1, o1), (i2, o2)] = its at itn
        have itm : its.map (·.1) = [z, TI, TO, i1, i2] := by rw [← hits]; rfl
        have itin : ∀ q ∈ its, q.1 ∈ [z, TI, TO, i1, i2] := fun q hq => itm ▸ List.mem_map_of_mem hq
        have N₅ : News h₀ env.locals h₄ ((C, oC) :: (D, lst ys) :: (its ++ nw)) := fun p hp => by
          rcases List.mem_cons.mp hp with rfl | hp
          · exact ⟨heC, hCL, hC₀⟩
          · rcases List.mem_cons.mp hp with rfl | hp
            · exact N₄ _ (List.mem_cons_self ..)
            · rcases List.mem_append.mp hp with hp | hp
              · exact ⟨itn p hp, (hZ _ (itin p hp)).1, (hZ _ (itin p hp)).2.1⟩
              · exact N₄ _ (List.mem_cons_of_mem _ hp)
        have tail : ∀ {h₅ : Heap} {nw' : Led}, (∀ p ∈ its ++ nw', h₅.get? p.1 = some p.2) → (l1, listOf xs.toArray n1) ∈ nw' → (l2, listOf zs.toArray n2) ∈ nw' →
            (IsZip h₅ z TI TO .none ∧ IsPair h₅ TI (.ref i1) (.ref i2) ∧ (∃ a b, IsPair h₅ TO a b) ∧ h₅.IsListIter i1 l1 (i + 1) ∧ h₅.IsListIter i2 l2 (i + 1) ∧ h₅.IsList l1 xs.toArray ∧ h₅.IsList l2 zs.toArray) := fun g5 q1 q2 => by
          refine W.frame _ _ _ st₄ fun b hb o e => ?_
          rcases mem57 hb with hb' | hb' | hb'
          · rw [← itm] at hb'
            obtain ⟨q, hq, hqb⟩ := List.mem_map.mp hb'
            rw [← hqb] at e ⊢
            rw [itn q hq] at e
            rw [← Option.some.inj e]
            exact g5 q (List.mem_append_left _ hq)
          · rw [hb'] at e ⊢
            rw [(N₄ _ (List.mem_cons_of_mem _ k1)).1] at e
            rw [← Option.some.inj e]
            exact g5 _ (List.mem_append_right _ q1)
          · rw [hb'] at e ⊢
            rw [(N₄ _ (List.mem_cons_of_mem _ k2)).1] at e
            rw [← Option.some.inj e]
            exact g5 _ (List.mem_append_right _ q2)
        refine (elem i ys nw v₁ v₂ its C oC D _ h₄ _ _ hlt hK (by simpa using hv₁) (by simpa using hv₂) hoC (by simp [hxx]) (by simp) F₄ N₅ (fun p hp => ⟨fun q hq => (off p hp).1 _ (itin q hq), (off p hp).2⟩) hCD (fun p hp => by
          rcases List.mem_cons.mp hp with rfl | hp
          · exact k1
          · rw [List.mem_singleton.mp hp]; exact k2)).mono (fun ok s₄ h₄' => ?_) fun _ _ e => e
        cases ok with
        | true =>
          simp only [if_true] at h₄' ⊢
          refine wpAny_mono h₄' (fun y' s₅ h₅' => ?_) fun _ _ e => e
          refine foldP fun G hG => ?_
          obtain ⟨h₅, tk₅, nw', zr1, F₅, N₅', off₅, kp, r⟩ := h₅'
          refine hG ?_
          clear hG G
          subst zr1
          have q1 := kp _ (List.mem_cons_self ..)
          have q2 := kp _ (List.mem_cons_of_mem _ (List.mem_cons_self ..))
          have zD := (N₅' (D, lst ys) (by simp)).1
          refine append_at (hsz := by show ys.toArray.size ≤ sizeLine; rw [List.size_toArray, sizeLine_eq]; omega) zD fun h₆ hs₆ hD₆ => ?_
          have up6 : ∀ p ∈ its ++ nw', h₆.get? p.1 = some p.2 := fun p hp => by
            refine hs₆.extBut _ _ ?_ (N₅' p (by simp only [List.mem_cons]; exact .inr (.inr hp))).1
            rcases List.mem_append.mp hp with hp | hp
            · have := itlt _ (itin p hp)
              exact fun q => Nat.ne_of_lt this q
            · exact (off₅ p hp).2.2
          refine ⟨xs.length + 1 - (i + 1), by omega, h₆, tk₅, i + 1, ys ++ [y'], _, nw', rfl, hlt, rfl, by rw [List.length_append, List.length_singleton]; omega, tail up6 q1 q2, F₅.change hs₆ hDL hD₀, (hoC.ns (N₅' _ (List.mem_cons_self ..)).1).sameBut hs₆ hCD, fun p hp => ?_, fun p hp => ⟨fun b hb => ?_, (off₅ p hp).2⟩, q1, q2, r⟩
          · rcases List.mem_cons.mp hp with rfl | hp
            · exact ⟨hD₆.trans (congrArg some (lst_snoc ys y')), hDL, hD₀⟩
            · exact ⟨up6 p (List.mem_append_right _ hp), (N₅' p (by simp [hp])).2⟩
          · rw [← itm] at hb
            obtain ⟨q, hq, rfl⟩ := List.mem_map.mp hb
            exact (off₅ p hp).1 q hq
        | false =>
          simp only [Bool.false_eq_true, if_false] at h₄' ⊢
          refine foldP fun G hG => ?_
          obtain ⟨h₅, tk₅, nw', zr1, F₅, N₅', off₅, kp, r⟩ := h₄'
          refine hG ?_
          clear hG G
          subst zr1
          have q1 := kp _ (List.mem_cons_self ..)
          have q2 := kp _ (List.mem_cons_of_mem _ (List.mem_cons_self ..))
          have up6 : ∀ p ∈ its ++ nw', h₅.get? p.1 = some p.2 := fun p hp => (N₅' p (by simp only [List.mem_cons]; exact .inr (.inr hp))).1
          refine ⟨xs.length + 1 - (i + 1), by omega, h₅, tk₅, i + 1, ys, _, nw', rfl, hlt, rfl, by omega, tail up6 q1 q2, F₅, hoC.ns (N₅' _ (List.mem_cons_self ..)).1, fun p hp => ?_, fun p hp => ⟨fun b hb => ?_, (off₅ p hp).2⟩, q1, q2, r⟩
          · rcases List.mem_cons.mp hp with rfl | hp
            · exact N₅' _ (by simp)
            · exact N₅' p (by simp [hp])
          · rw [← itm] at hb
            obtain ⟨q, hq, rfl⟩ := List.mem_map.mp hb
            exact (off₅ p hp).1 q hq
      · obtain rfl : i = xs.length := by omega
        refine W.done _ _ _ hst fun h₂ tk₂ hk₂ => ?_
        obtain ⟨F₂, hn₂, N₂⟩ := frw hk₂
        show wpAny _ A (assign (.Name y py) env (.ref D)) _ _ _
        refine wpAny_assign_Name (wpAny_storeName_local hy F₂.ns (fun h₃ hn₃ hs₃ => ?_) hp)
        have hL₀ : h₀.get? env.locals = none := Heap.get?_none_of_le F₂.above
        have F₃ : Fr h₀ env.locals h₃ (fun z => if z = y then some (.ref D) else m z) := ⟨hn₃, fun b o e => hs₃.extBut b o (fun q => by rw [q, hL₀] at e; cases e) (F₂.keep b o e), F₂.above⟩
        refine ⟨m', hn₂.sameBut hs₃ hCL, fun h'' hs'' => fin D h'' _ ys nw hK (F₃.change hs'' hCL hC₀) (fun p hp => ?_) fun p hp => (off p hp).2.2⟩
        refine ⟨hs''.extBut _ _ ?_ (hs₃.extBut _ _ (N₂ p hp).2.1 (N₂ p hp).1), (N₂ p hp).2⟩
        rcases List.mem_cons.mp hp with rfl | hp
        · exact hCD.symm
        · exact (off p hp).2.1
    · rcases List.mem_cons.mp hp with rfl | hp
      · exact ⟨hacc, hDL, hD₀⟩
      · exact ⟨old _ _ (N p hp).1, (N p hp).2⟩
    · have := nlt p hp; omega
    · have := nlt p hp; omega
  exact codeAny_compStart_list (loop _ rfl) (W.self 0 _ _ _ stA (loop _ rfl))
end

/-- the contract of a def that may catch: called from a frame that stands on nothing -/
noncomputable def ConT (w : World) (f : Addr) (news : Led) (vs : List Value) (n : Nat) (D : Led → Value → Prop) : Prop :=
  ∀ (loose : List Str) (mean : ExcName → Option Value) (mg mb : Str → Option Value) (kt : KT) (A₀ : Around) (base h₀ : Heap) (m : Str → Option Value) (hp : Heap) (g0 : Array GenState) (d0 : Drawn) (t0 : Nat) (o0 : OsState) (Q E : Value → Shared → Prop),
    Below A₀ base [] h₀ → Fr h₀ kt.L hp m → (Mine.hd.heap_1 w.params).In h₀ → (Mine.hd.heap_1 w.params).In base → News h₀ kt.L hp news → Top Mine.hd.view_1 loose mean mg mb h₀ → Top Mine.hd.view_1 loose mean mg mb base → kt.cs.kind = .function →
    kt.dp + n ≤ 900 → kt.un + 100 * n ≤ 2000 → Ret h₀ kt.L m news ⟨hp, g0, d0, t0, o0⟩ Q D →
      wpAny (model PR w) (ktT kt) (call (.ref f) vs) Q E ⟨hp, g0, d0, t0, o0⟩
theorem ConT.use {w : World} {f : Addr} {news : Led} {vs : List Value} {n : Nat} {D : Led → Value → Prop} (C : ConT w f news vs n D) (loose : List Str) (mean : ExcName → Option Value) (mg mb : Str → Option Value) (dp un : Nat) (gd : Option (List Code)) (cn : Str) (cs : Scope) (a : Addr) (ccd : Value) (cl : List (Str × Addr)) (A₀ : Around) (base h₀ : Heap) (L : Addr) (m : Str → Option Value) (s : Shared) (Q E : Value → Shared → Prop)
    (B : Below A₀ base [] h₀) (F : Fr h₀ L s.heap m) (X : (Mine.hd.heap_1 w.params).In h₀) (XB : (Mine.hd.heap_1 w.params).In base) (N : News h₀ L s.heap news) (T : Top Mine.hd.view_1 loose mean mg mb h₀) (TB : Top Mine.hd.view_1 loose mean mg mb base) (hk : cs.kind = .function)
    (hd : dp + n ≤ 900) (hu : un + 100 * n ≤ 2000) (hr : Ret h₀ L m news s Q D) : wpAny (model PR w) (ktrTop dp un gd cn cs L a ccd cl []) (call (.ref f) vs) Q E s :=
  C loose mean mg mb ⟨dp, un, gd, cn, cs, L, a, ccd, cl, []⟩ A₀ base h₀ m s.heap s.gens s.drawn s.toks s.os Q E B F X XB N T TB hk hd hu hr
theorem leaveT {h₀ g g' h' : Heap} {L L' : Addr} {m m' : Str → Option Value} {hp : Heap} {g0 : Array GenState} {d0 : Drawn} {t0 : Nat} {o0 : OsState} {news args led : Led} {Q : Value → Shared → Prop} {D : Led → Value → Prop} {R : Result → Shared → Prop} {v : Value} {tk : Nat} {fs : List Addr}
    (X : EntP h₀ L m g ⟨hp, g0, d0, t0, o0⟩ news args Q D := by assumption) (hR : ∀ v s', Q v s' → R (.ok (.ret v)) s' := by exact fun _ _ h => h) (hfs : fs = [L] := by assumption) (T : KtsTurn fs g g' := by first | assumption | exact KtsTurn.refl) (F' : Fr g' L' h' m' := by k_asm) (N' : News g' L' h' led := by k_asm) (hin : ∀ p ∈ args, p ∈ led := by kqd_sub) (e : EndP args led D v) :
    LeaveS0 fs h₀ L m g R v ⟨h', g0, d0, tk, o0⟩ := by
  obtain ⟨new, h1, h2, hD⟩ := e
  have up : ∀ p ∈ news, p.1 ∉ args.map (·.1) → g'.get? p.1 = some p.2 := fun p hp hb => by
    have hN := X.N p hp
    refine T.other _ _ (X.back _ _ hN.1 hb) fun hm => ?_
    rw [hfs] at hm
    exact hN.2.1 (List.mem_singleton.mp hm)
  refine ⟨g', L', m', led, T, F', N', fun kF kN => hR _ _ (X.ret v new h' tk kF (fun p hp => ?_) (fun q hq p hp e => ?_) hD)⟩
  · rcases List.mem_append.mp hp with hp | hp
    · exact kN p (h1 p hp)
    · have hN := X.N p hp
      refine ⟨?_, hN.2⟩
      by_cases hb : p.1 ∈ args.map (·.1)
      · obtain ⟨q, hq, e⟩ := List.mem_map.mp hb
        have h3 := (X.N q (X.sub q hq)).1
        rw [e, hN.1] at h3
        have : p = q := Prod.ext e.symm (Option.some.inj h3)
        rw [this]
        exact (kN q (hin q hq)).1
      · exact F'.keep _ _ (up p hp hb)
  · have h3 := (N' p (h1 p hp)).2.2
    have hb : q.1 ∉ args.map (·.1) := fun hb => by
      obtain ⟨r, hr, e'⟩ := List.mem_map.mp hb
      exact h2 p hp r hr (e'.trans e).symm
    have h5 := up q hq hb
    have e2 : q.1 = p.1 := e
    rw [e2, h3] at h5
    cases h5
section
variable {prog : Program} {w : World} {A₀ A : Around} {s : Shared} {base h₀ : Heap} {L : Addr} {m : Str → Option Value} {env : Env} {news args : Led} {K : Frag} {p : Program} {loose : List Str} {mean : ExcName → Option Value} {mg mb : Str → Option Value}
  {R : Result → Shared → Prop} {name qual : Str} {params : Arguments} {body : List Stmt} {scope : Scope} {dV kV doc pm cdv ct oc : Value} {an od : Option Addr} {osl : Array (Option Value)} {f : Addr} {vals : Args} {binds : List (Str × Value)}
  {Q : Value → Shared → Prop} {D : Led → Value → Prop}
theorem enterT {m₁ : Str → Option Value} {binds₀ : List (Str × Value)} (B : Below A₀ base [] h₀ := by k_asm) (F : Fr h₀ L s.heap m := by k_asm) (X₀ : K.In h₀ := by assumption) (N : News h₀ L s.heap news := by k_asm) (T : Top p loose mean mg mb h₀ := by assumption) (hA : A.frames = some [env] := by exact rfl) (hf : env.frame = some L := by exact rfl) (hke : env.scope.kind = .function := by assumption)
    (ho : K.lookup f = some ⟨oc, od, .func (fnOf name qual params body scope dV kV doc pm an cdv ct), osl⟩ := by k_is) (hcd : codeIn K cdv qual = true := by k_is) (hroom : A.depth < recursionLimit := by ktr_room)
    (hbind : BindsTo s (fnOf name qual params body scope dV kV doc pm an cdv ct) vals binds₀ := by exact BindsTo.of_eq rfl) (hb₀ : binds₀ = binds := by first | exact (rfl : _ = [(_, _)]) | exact (rfl : _ = [(_, _), (_, _)])) (hm : (fun y => binds.reverse.lookup y) = m₁ := by first | exact look1 | exact look2) (hloc : ∀ y ∈ binds, scope.names.lookup y.1 = some .local := by exact locs rfl)
    (hsub : ∀ p ∈ args, p ∈ news := by assumption) (hret : Ret h₀ L m news s Q D := by assumption)
    (h : ∀ g L' h₁, EntP h₀ L m g s news args Q D → Fr g L' h₁ m₁ → News g L' h₁ args → Below A base [env] g → K.In g → Top p loose mean mg mb g → KtsDicts ([env].filterMap (·.frame)) g → [env].filterMap (·.frame) = [L] → (∀ p ∈ args, p.1 < L') →
      wpAny (model prog w) (A.deeper (envOf qual scope L' f cdv)) (execs body (envOf qual scope L' f cdv))
        (fun fl s' => LeaveS0 ([env].filterMap (·.frame)) h₀ L m g R (match fl with | .ret v => v | _ => .none) s')
        (fun e s' => wpAny (model prog w) (A.deeper (envOf qual scope L' f cdv)) (leaving (envOf qual scope L' f cdv) e) (fun _ s'' => R (.error e) s'') (fun e' s'' => R (.error e') s'') s')
        { s with heap := h₁, toks := s.toks + binds.length })
    (hcell : ∀ x ∈ scope.names, x.2 ≠ .cell := by decide) (hco : scope.isCoroutine = false := by rfl) (hgen : scope.isGenerator = false := by rfl) (hk : scope.kind = .function := by rfl) : codeAny (model prog w) A (.call (.ref f) vals) R s := by
  subst hm
  subst hb₀
  have Na : News h₀ L s.heap args := fun q hq => N q (hsub q hq)
  obtain ⟨FG, BG, st, _⟩ := groundX (R := R) B F Na hA hf hke
  have X := X₀.keeps F.keep
  have hfs : [env].filterMap (·.frame) = [L] := by simp [hf]
  have FG' := FG
  obtain ⟨oL, es, ep, hL, hLd, hLk, hLf⟩ := FG'.ns
  refine codeAny_call_def (fd := fnOf name qual params body scope dV kV doc pm an cdv ct) (body := body) hroom (X _ _ ho) rfl (T.nolimit.keeps F.keep) (codeRec_of X hcd) rfl hbind hcell hloc (fun h₁ hns hk₁ => ?_) hco hgen hk
  refine wpAny_mono (h _ s.heap.objs.size h₁ ⟨fun b o e hb => hideAll_get _ e hb, N, hsub, hret⟩ ⟨hns, fun b o e => hk₁ b o (of_hideAll _ e), Nat.le_of_eq (hideAll_size _ _)⟩
    (fun q hq => ⟨hk₁ _ _ (Na q hq).1, Nat.ne_of_lt (Heap.lt_size (Na q hq).1), hideAll_none _ (List.mem_map_of_mem hq)⟩) BG (X₀.keeps st) (T.keeps st) (fun b hb => ?_) hfs (fun q hq => Heap.lt_size (Na q hq).1)) (fun fl s' hl => ?_) fun _ _ y => y
  · rw [hfs] at hb
    rw [List.mem_singleton.mp hb]
    exact ⟨oL, es, ep, hL, hLd⟩
  · obtain ⟨g', L', m', news', T', F', N', k⟩ := hl
    have nL₀ : h₀.get? L = none := kts_self F
    obtain ⟨sl, hs⟩ := T'.up hL
    refine k ⟨⟨_, es, ep, F'.keep _ _ hs, hLd, hLk, hLf⟩, fun b o e => F'.keep b o (T'.other b o (st b o e) (fun q => ?_)), F.above⟩ fun p hp => ⟨(N' p hp).1, fun q => ?_, ?_⟩
    · rw [hfs] at q
      rw [List.mem_singleton.mp q, nL₀] at e
      cases e
    · have := (N' p hp).2.2; rw [q, hs] at this; cases this
    · cases q : h₀.get? p.1 with
      | none => rfl
      | some o =>
        obtain ⟨sl', hs'⟩ := T'.up (st _ _ q)
        have := (N' p hp).2.2
        rw [hs'] at this
        cases this
end

noncomputable def okPair (p q : Pl) : Prop := match p, q with
  | _, .seven => False
  | .seven, .tx _ => False
  | _, _ => True
theorem c_build (w : World) (news : Led) (r : Addr) (o : Obj) (v v2 : Value) (p q : Pl) (n : Nat) (hp : p.Ok) (hq : q.Ok) (hpq : okPair p q) (hv : FlIn v p) (hv2 : FlIn v2 q) (ho : o = listOf [v, v2].toArray n ∨ o = tupOb [v, v2] n) (hl : (r, o) ∈ news) :
    Con w 35 news [.ref r] 1 (fun new v => DatIn new v (dueOf [p, q])) := by
  have hv' := hv []
  have hv2' := hv2 []
  rcases ho with rfl | rfl
  all_goals
    have hs := sub_one hl
    clear hl
    cases p <;> (first | obtain rfl := dat_none hv' | obtain ⟨t, rfl⟩ := dat_int hv' | obtain ⟨t, rfl⟩ := dat_str hv') <;> clear hv hv' <;> cases q <;> first | exact hpq.elim | skip
    all_goals
      (first | obtain rfl := dat_none hv2' | obtain ⟨t2, rfl⟩ := dat_int hv2' | obtain ⟨t2, rfl⟩ := dat_str hv2')
      clear hv2 hv2'
      (simp only [Pl.Ok] at hp hq; (try have hp1 := hp.len); (try have hq1 := hq.len))
      walk_at "BODY"
      first | exact endP_flat (.str _ _) | exact endP_flat (.int _ _)
section
local macro_rules | `(tactic| walk_at "assign Tuple") => `(tactic| (k_here; (with_reducible show wpAny _ _ (assign (Expr.Tuple _ _ _) _ (Value.str _ _)) _ _ _); refine hold_in ?_))
theorem c_build_str (w : World) (news : Led) (x : Str) (t : Tok) (a b : Nat) (hx : x.cps = #[a, b]) : Con w 35 news [.str x t] 1 (fun new v => DatIn new v (.str (⟨#[a]⟩ ++ Str.ofString "." ++ ⟨#[b]⟩))) := by
  have hs : ∀ p ∈ ([] : Led), p ∈ news := by simp
  walk_at "BODY"
  refine Hold.out ?_
  (rename Fr _ _ _ _ => lF); (rename News _ _ _ _ => lN)
  k_dflt (refine asg_str2 lF lN (by rfl) hx (by rfl) (by rfl) fun ta tb h' tk F' N' => ?_)
  clear lF lN
  have h1 : (⟨#[a]⟩ : Str).length = 1 := rfl
  have h2 : (⟨#[b]⟩ : Str).length = 1 := rfl
  k_steps
  exact endP_flat (.str _ _)
end

section
variable {prog : Program} {w : World} {A : Around} {E : Value → Shared → Prop} {s : Shared} {env : Env} {h₀ : Heap} {target : Expr} {body : List Stmt} {Q : Flow → Shared → Prop}
theorem list_inv {I : Addr} {nm : String} {keep : Led} (J : List Value → (Str → Option Value) → Led → Prop)
    (turn : ∀ c r m news, J (c :: r) m news → ∀ h tk o, o.cls = .type nm → Fr h₀ env.locals h m → News h₀ env.locals h ((I, o) :: news) →
      wpAny (model prog w) A (assign target env c) (fun _ s₂ => wpAny (model prog w) A (execs body env) (UnrPostW h₀ env.locals { s with heap := h, toks := tk } [(I, o)] (fun m' n' => SubL keep n' ∧ J r m' n') Q) E s₂) E { s with heap := h, toks := tk })
    (done : ∀ m news, J [] m news → ∀ h tk, Fr h₀ env.locals h m → News h₀ env.locals h news → Q .next { s with heap := h, toks := tk }) :
    ∀ (c : List Value) m news, J c m news → ItemsRest prog w A E h₀ env target body Q s [(I, nm)] keep (c.map .val) m news
  | [], m, news, j => done m news j
  | c :: r, m, news, j => by
    refine ItemsRest.val fun h tk F => AllObj.cons fun o ho => AllObj.nil fun N => ?_
    refine wpAny_mono (turn c r m news j h tk o ho F N) (fun _ s₂ h₂ => wpAny_mono h₂ (fun f s₃ h₃ => ?_) fun _ _ e => e) fun _ _ e => e
    exact unrPostW_mono (fun m' n' x => ⟨x.1, list_inv J turn done r m' n' x.2⟩) h₃
theorem iter_list {a : Addr} {vs : List Value} {n : Nat} {m₀ : Str → Option Value} {news : Led} (J : Led → (Str → Option Value) → List Value → (Str → Option Value) → Led → Prop) (F : Fr h₀ env.locals s.heap m₀) (N : News h₀ env.locals s.heap news)
    (hh : A.handled = none) (hm : (a, listOf vs.toArray n) ∈ news) (j : J news m₀ vs m₀ news)
    (turn : ∀ c r m nw, J news m₀ (c :: r) m nw → ∀ I h tk o, (∀ p ∈ news, p.1 < I) → o.cls = .type "list_iterator" → Fr h₀ env.locals h m → News h₀ env.locals h ((I, o) :: nw) →
      wpAny (model prog w) A (assign target env c) (fun _ s₂ => wpAny (model prog w) A (execs body env) (UnrPostW h₀ env.locals { s with heap := h, toks := tk } [(I, o)] (fun m' n' => SubL [(a, listOf vs.toArray n)] n' ∧ J news m₀ r m' n') Q) E s₂) E { s with heap := h, toks := tk })
    (done : ∀ m nw, J news m₀ [] m nw → ∀ h tk, Fr h₀ env.locals h m → News h₀ env.locals h nw → Q .next { s with heap := h, toks := tk }) :
    wpAny (model prog w) A (pyIter (.ref a)) (fun it s₂ => TurnsAt prog w A h₀ env target body Q E it s₂) E s :=
  iter_listTurns hh F N hm rfl rfl fun I l1 => list_inv (J news m₀) (fun c r m nw x h tk o ho F N => turn c r m nw x I h tk o l1 ho F N) done vs m₀ news j
end
/-- a dict of six dicts: texts to ints -/
noncomputable def Fam (w : World) (P : Addr → Prop) (ol : Obj) (inner : Led) (f : Nat → AL) : Prop :=
  ∃ kvs, ol.IsDictOf (PySem.strKind PR w) kvs ∧ kvs.length = 6 ∧ ∀ i, i < 6 → ∃ d od, valueAt kvs (sgk i) = some (.ref d) ∧ (d, od) ∈ inner ∧ DI w d od (f i) ∧ P d
inductive OutF (w : World) (f : Nat → AL) (new : Led) (v : Value) : Prop
  | mk (l) (ol) (inner) (_ : new = (l, ol) :: inner) (_ : v = .ref l) (_ : (∀ p ∈ inner, @Ne Nat p.1 l)) (_ : (l == sysModules) = false) (_ : Fam w (fun _ => True) ol inner f) : OutF w f new v
theorem valueAt_stored {kvs : List (Str × Value)} {k x : Str} {v : Value} : valueAt (stored kvs k v) x = if x = k then some v else valueAt kvs x := by
  unfold stored
  split
  · rename_i h
    unfold valueAt
    induction kvs with
    | nil => simp at h
    | cons p r ih =>
      by_cases hp : p.1 = k
      · by_cases hx : x = k
        · subst hx; simp [hp]
        · have h1 : p.1 ≠ x := fun e => hx (e.symm.trans hp)
          simp only [List.map_cons, hp, if_true, List.find?_cons]
          have h2 : (decide (k = x)) = false := by simpa using fun e : k = x => hx e.symm
          have h3 : (decide (p.1 = x)) = false := by simpa using h1
          rw [h2, if_neg hx]
          simp only [h3] 
          by_cases hr : (r.any fun kv => decide (kv.1 = k)) = true
          · have := ih hr; rw [if_neg hx] at this; simpa [hp, h2] using this
          · have hall : r.map (fun kv => if kv.1 = k then (kv.1, v) else kv) = r := by
              conv => rhs; rw [← List.map_id r]
              refine List.map_congr_left fun q hq => ?_
              have : q.1 ≠ k := fun e => hr (List.any_eq_true.mpr ⟨q, hq, by simpa using e⟩)
              simp [this]
            rw [hall]
            first | done | simp [hp, h2]
      · have hr : (r.any fun kv => decide (kv.1 = k)) = true := by simpa [hp] using h
        have := ih hr
        simp only [List.map_cons, hp, if_false, List.find?_cons]
        by_cases hx : p.1 = x
        · have : x ≠ k := fun e => hp (hx.trans e)
          simp [hx, this]
        · simp only [hx, decide_false]; exact this
  · rename_i h
    unfold valueAt
    rw [List.find?_append]
    by_cases hx : x = k
    · subst hx
      have : kvs.find? (fun kv => decide (kv.1 = x)) = none := List.find?_eq_none.mpr fun q hq e => h (List.any_eq_true.mpr ⟨q, hq, e⟩)
      rw [this]; simp
    · have : ¬ k = x := fun e => hx e.symm
      simp [this, hx]
theorem stored_len {kvs : List (Str × Value)} {k : Str} {v u : Value} (h : valueAt kvs k = some u) : (stored kvs k v).length = kvs.length := by
  unfold stored
  rw [if_pos]
  · simp
  · unfold valueAt at h
    cases e : kvs.find? (fun kv => decide (kv.1 = k)) with
    | none => rw [e] at h; cases h
    | some q => exact List.any_eq_true.mpr ⟨q, List.mem_of_find?_eq_some e, by have := List.find?_some e; simpa using this⟩
theorem sgk_inj {i j : Nat} (hi : i < 6) (hj : j < 6) (h : sgk i = sgk j) : i = j := by
  have key : ∀ i j : Fin 6, sgk i = sgk j → i = j := by decide +kernel
  exact congrArg Fin.val (key ⟨i, hi⟩ ⟨j, hj⟩ h)
theorem Fam.mono {w : World} {P : Addr → Prop} {ol : Obj} {inner inner' : Led} {f : Nat → AL} (hs : ∀ p ∈ inner, p ∈ inner') (h : Fam w P ol inner f) : Fam w P ol inner' f := by
  obtain ⟨kvs, a, b, c⟩ := h
  exact ⟨kvs, a, b, fun i hi => by obtain ⟨d, od, e1, e2, e3⟩ := c i hi; exact ⟨d, od, e1, hs _ e2, e3⟩⟩
/-- one of the six is replaced -/
theorem Fam.put {w : World} {P : Addr → Prop} {ol' : Obj} {inner inner' : Led} {f : Nat → AL} {kvs : List (Str × Value)} {g : Nat} {d : Addr} {od : Obj} {c : AL} (hg : g < 6) (hk : ol'.IsDictOf (PySem.strKind PR w) (stored kvs (sgk g) (.ref d)))
    (hlen : kvs.length = 6) (h : ∀ i, i < 6 → ∃ d od, valueAt kvs (sgk i) = some (.ref d) ∧ (d, od) ∈ inner ∧ DI w d od (f i) ∧ P d) (hs : ∀ p ∈ inner, p ∈ inner') (hd : (d, od) ∈ inner') (hc : DI w d od c) (hlo : P d) :
    Fam w P ol' inner' (fun i => if i = g then c else f i) := by
  refine ⟨_, hk, ?_, fun i hi => ?_⟩
  · obtain ⟨_, _, e, _⟩ := h g hg
    rw [stored_len e, hlen]
  · by_cases e : i = g
    · subst e
      exact ⟨d, od, by rw [valueAt_stored, if_pos rfl], hd, by show DI w d od (if i = i then c else f i); rw [if_pos rfl]; exact hc, hlo⟩
    · obtain ⟨d', od', e1, e2, e3, e4⟩ := h i hi
      exact ⟨d', od', by rw [valueAt_stored, if_neg fun q => e (sgk_inj hi hg q)]; exact e1, hs _ e2, by show DI w d' od' (if i = g then c else f i); rw [if_neg e]; exact e3, e4⟩

noncomputable def rowD (r : List Nat) : Dat := .list (r.map prD)
noncomputable def edge (f : Nat → AL) (g o : Nat) (k : Int) : Nat → AL := fun i => if i = g then addC (f g) [(sgk (opp o), k)] else f i
noncomputable def rowEdges : List Nat → List (Nat × Nat)
  | [a] => [(a, a)]
  | [a, b] => [(a, b), (b, a)]
  | _ => []
noncomputable def callsStep (f : Nat → AL) (k : Int) (r : List Nat) : Nat → AL := (rowEdges r).foldl (fun f e => edge f e.1 e.2 k) f
noncomputable def callsGo : Nat → List (List Nat) → (Nat → AL) → Nat → AL
  | _, [], f => f
  | k, r :: rs, f => callsGo (k + 1) rs (callsStep f (k + 1) r)
noncomputable def callsOf (rows : List (List Nat)) : Nat → AL := callsGo 0 rows fun _ => []
theorem valueAt_get : ∀ {kvs : List (Str × Value)} {i : Nat} {k : Str} {v : Value}, (kvs.map (·.1)).Nodup → kvs[i]? = some (k, v) → valueAt kvs k = some v
  | [], _, _, _, _, h => by simp at h
  | p :: r, 0, k, v, _, h => by
    have : p = (k, v) := by simpa using h
    subst this
    simp [valueAt]
  | p :: r, i + 1, k, v, hn, h => by
    have h' : r[i]? = some (k, v) := by simpa using h
    rw [List.map_cons, List.nodup_cons] at hn
    have ne : ¬ p.1 = k := fun e => hn.1 (List.mem_map.mpr ⟨(k, v), List.mem_of_getElem? h', e.symm⟩)
    have := valueAt_get hn.2 h'
    unfold valueAt at this ⊢
    rw [List.find?_cons]
    simp only [ne, decide_false]
    exact this
theorem keys_row : (((Str.ofString "aAbBdD").cps.toList.take (Str.ofString "aAbBdD").cps.size).map sg1) = (List.range 6).map sgk := by decide +kernel
theorem keys_nodup : ((List.range 6).map sgk).Nodup := by decide +kernel
theorem fam_new {w : World} {P : Addr → Prop} {oD : Obj} {dl inner : Led} {kvs : List (Str × Value)} (hd : oD.IsDictOf (PySem.strKind PR w) kvs) (h : DNew PR w (Str.ofString "aAbBdD") (Str.ofString "aAbBdD").cps.size dl kvs) (hs : ∀ p ∈ dl, p ∈ inner) (hlo : ∀ p ∈ dl, P p.1) :
    Fam w P oD inner fun _ => [] := by
  obtain ⟨h1, h2, h3⟩ := h
  have e1 : kvs.map (·.1) = (List.range 6).map sgk := by rw [h1]; exact keys_row
  have l1 : kvs.length = 6 := by have := congrArg List.length e1; simpa using this
  have l2 : dl.length = 6 := by have := congrArg List.length h2; simp only [List.length_map] at this; omega
  refine ⟨kvs, hd, l1, fun i hi => ?_⟩
  have g1 : kvs[i]? = some (kvs[i]'(by omega)) := List.getElem?_eq_getElem (by omega)
  have g2 : dl[i]? = some (dl[i]'(by omega)) := List.getElem?_eq_getElem (by omega)
  have m2 : dl[i]'(by omega) ∈ dl := List.mem_of_getElem? g2
  have k1 : (kvs[i]'(by omega)).1 = sgk i := by
    have := congrArg (·[i]?) e1
    simp only [List.getElem?_map, g1, List.getElem?_range hi, Option.map_some, Option.some.injEq] at this
    exact this
  have k2 : (kvs[i]'(by omega)).2 = .ref (dl[i]'(by omega)).1 := by
    have := congrArg (·[i]?) h2
    simp only [List.getElem?_map, g1, g2, Option.map_some, Option.some.injEq] at this
    exact this
  refine ⟨(dl[i]'(by omega)).1, (dl[i]'(by omega)).2, valueAt_get (i := i) (by rw [e1]; exact keys_nodup) (by rw [g1, ← k1, ← k2]), hs _ m2, ⟨(h3 _ m2).1, [], (h3 _ m2).2, .nil⟩, hlo _ m2⟩
/-- between two turns of _law_calls' outer loop -/
inductive JCalls (w : World) (led : Led) (rows : List (List Nat)) (goal : Nat → AL) (news₀ : Led) (m₀ : Str → Option Value) (n : Nat) (m : Str → Option Value) (nw : Led) : Prop
  | mk (q1 q2 q3 q4 : Str → Option Value) (l : Addr) (ol0 ol : Obj) (r0 inner : Led) (f : Nat → AL) (_ : news₀ = (l, ol0) :: r0) (_ : m = (fun y => if y = Str.ofString "other" then q1 y else if y = Str.ofString "goal" then q2 y else if y = Str.ofString "read" then q3 y else if y = Str.ofString "k" then q4 y else m₀ y)) (_ : nw = (l, ol) :: inner) (_ : Fam w (fun d => ∀ q ∈ led, @Ne Nat q.1 d) ol inner f) (_ : (∀ p ∈ led, p ∈ inner)) (_ : (∀ p ∈ inner, @Ne Nat p.1 l)) (_ : (∀ p ∈ inner, p ∈ led ∨ p.2.cls = .type "dict")) (_ : callsGo n (rows.drop n) f = goal) (_ : ∀ i, i < 6 → (f i).length ≤ 2 * n) : JCalls w led rows goal news₀ m₀ n m nw
theorem di_cls {w : World} {o : Obj} {kvs : List (Str × Value)} (h : o.IsDictOf (PySem.strKind PR w) kvs) : o.cls = .type "dict" := by obtain ⟨_, _, h1, _⟩ := h; exact h1.1
theorem names4g {m₀ : Str → Option Value} (M : Str → Option Value) (a b c d : Str) (h : ∀ y, y ≠ a → y ≠ b → y ≠ c → y ≠ d → M y = m₀ y) : M = (fun y => if y = a then M y else if y = b then M y else if y = c then M y else if y = d then M y else m₀ y) := by
  funext y
  by_cases h1 : y = a
  · simp [h1]
  · by_cases h2 : y = b
    · simp [h2]
    · by_cases h3 : y = c
      · simp [h3]
      · by_cases h4 : y = d
        · simp [h4]
        · simp [h1, h2, h3, h4, h y h1 h2 h3 h4]
theorem fam_filter {w : World} {ol : Obj} {inner led : Led} {f : Nat → AL} (h : Fam w (fun d => ∀ q ∈ led, @Ne Nat q.1 d) ol inner f) : ∃ inner' : Led, (∀ p ∈ inner', p ∈ inner) ∧ (∀ p ∈ inner', ∀ q ∈ led, @Ne Nat q.1 p.1) ∧ Fam w (fun _ => True) ol inner' f := by
  classical
  obtain ⟨kvs, h1, h2, h3⟩ := h
  refine ⟨inner.filter fun p => decide (∀ q ∈ led, @Ne Nat q.1 p.1), fun p hp => (List.mem_filter.mp hp).1, fun p hp => of_decide_eq_true (List.mem_filter.mp hp).2, kvs, h1, h2, fun i hi => ?_⟩
  obtain ⟨d, od, v1, v2, v3, v4⟩ := h3 i hi
  exact ⟨d, od, v1, List.mem_filter.mpr ⟨v2, decide_eq_true v4⟩, v3, trivial⟩
theorem names2g {m₀ q1 q2 : Str → Option Value} {x y : Option Value} (a b : Str) : (fun z => if z = b then x else if z = a then y else if z = b then q1 z else if z = a then q2 z else m₀ z) = fun z => if z = b then (fun _ => x) z else if z = a then (fun _ => y) z else m₀ z := by
  funext z
  by_cases h1 : z = b
  · simp [h1]
  · by_cases h2 : z = a <;> simp [h1, h2]
theorem names4 {m₀ : Str → Option Value} (a b c d : Str) : m₀ = (fun y => if y = a then m₀ y else if y = b then m₀ y else if y = c then m₀ y else if y = d then m₀ y else m₀ y) := by
  funext y; simp
abbrev tupO (vs : List Value) (n : Nat) : Obj := { cls := .type "tuple", data := .seq vs.toArray n }
inductive EdgeAt (pre : Led) (v : Value) (e : Nat × Nat) : Prop
  | mk (T) (n) (tg) (ng) (to) (no) (u1) (u2) (u3) (u4) (_ : v = .ref T) (_ : (T, tupO [.ref tg, .ref to] n) ∈ pre) (_ : (tg, tupO [.str (sgk e.1) u1, .str (sgk (opp e.1)) u2] ng) ∈ pre) (_ : (to, tupO [.str (sgk e.2) u3, .str (sgk (opp e.2)) u4] no) ∈ pre) : EdgeAt pre v e
noncomputable def EdgesAt (pre : Led) : List Value → List (Nat × Nat) → Prop
  | [], [] => True
  | v :: vs, e :: es => EdgeAt pre v e ∧ EdgesAt pre vs es
  | _, _ => False
/-- between two turns of _law_calls' inner loop -/
inductive JEdge (w : World) (led pre : Led) (l : Addr) (k : Int) (goal : Nat → AL) (B : Nat) (z1 : Led) (m₀ : Str → Option Value) (rest : List Value) (m : Str → Option Value) (nw : Led) : Prop
  | mk (q1 q2 : Str → Option Value) (ol : Obj) (inner : Led) (f : Nat → AL) (es : List (Nat × Nat)) (_ : m = (fun y => if y = Str.ofString "other" then q1 y else if y = Str.ofString "goal" then q2 y else m₀ y)) (_ : nw = pre ++ (l, ol) :: inner) (_ : Fam w (fun d => ∀ q ∈ led, @Ne Nat q.1 d) ol inner f) (_ : (∀ p ∈ led, p ∈ inner)) (_ : (∀ p ∈ inner, @Ne Nat p.1 l)) (_ : (∀ p ∈ inner, p ∈ led ∨ p.2.cls = .type "dict")) (_ : EdgesAt pre rest es) (_ : (∀ e ∈ es, e.1 < 6 ∧ e.2 < 6)) (_ : es.foldl (fun f e => edge f e.1 e.2 k) f = goal) (_ : ∀ i, i < 6 → (f i).length + es.length ≤ B) : JEdge w led pre l k goal B z1 m₀ rest m nw
theorem JEdge.on {P : (Str → Option Value) → Led → Prop} {w : World} {led : Led} {pre : Led} {l : Addr} {k : Int} {goal : Nat → AL} {B : Nat} {z1 : Led} {m₀ : Str → Option Value} {rest : List Value} {m : Str → Option Value} {nw : Led} (h : JEdge w led pre l k goal B z1 m₀ rest m nw)
    (kk : ∀ (q1 : Str → Option Value) (q2 : Str → Option Value) (ol : Obj) (inner : Led) (f : Nat → AL) (es : List (Nat × Nat)), (Fam w (fun d => ∀ q ∈ led, @Ne Nat q.1 d) ol inner f) → ((∀ p ∈ led, p ∈ inner)) → ((∀ p ∈ inner, @Ne Nat p.1 l)) → ((∀ p ∈ inner, p ∈ led ∨ p.2.cls = .type "dict")) → (EdgesAt pre rest es) → ((∀ e ∈ es, e.1 < 6 ∧ e.2 < 6)) → (es.foldl (fun f e => edge f e.1 e.2 k) f = goal) → (∀ i, i < 6 → (f i).length + es.length ≤ B) → P (fun y => if y = Str.ofString "other" then q1 y else if y = Str.ofString "goal" then q2 y else m₀ y) (pre ++ (l, ol) :: inner)) : P m nw := by
  obtain ⟨q1, q2, ol, inner, f, es, rfl, rfl, h1, h2, h3, h4, h5, h6, h7, h8⟩ := h
  exact kk q1 q2 ol inner f es h1 h2 h3 h4 h5 h6 h7 h8
theorem NewsAt.mk {h₀ h : Heap} {L : Addr} {news : Led} (N : News h₀ L h news) {p : Addr × Obj} (hp : p ∈ news) : h.get? p.1 = some p.2 ∧ p.1 ≠ L ∧ h₀.get? p.1 = none := N p hp
theorem cls_apart {h₀ h : Heap} {L : Addr} {p q : Addr × Obj} {x y : String} (hp : h.get? p.1 = some p.2 ∧ p.1 ≠ L ∧ h₀.get? p.1 = none) (hq : h.get? q.1 = some q.2 ∧ q.1 ≠ L ∧ h₀.get? q.1 = none) (h1 : p.2.cls = .type x) (h2 : q.2.cls = .type y) (hn : x ≠ y) : @Ne Nat p.1 q.1 := by
  intro e
  have e1 := hp.1
  rw [show p.1 = q.1 from e, hq.1] at e1
  rw [← Option.some.inj e1, h2] at h1
  injection h1 with h3
  exact hn h3.symm
theorem addC_one_len (t : AL) (p : Str × Int) : (addC t [p]).length ≤ t.length + 1 := by
  have h1 := copyGo_len t []
  have h2 := addS_len (copyC t) p
  have h3 : (copyC t).length ≤ t.length := by unfold copyC; simpa using h1
  show (addS (copyC t) p).length ≤ _
  omega
theorem rowEdges_len : ∀ r : List Nat, (rowEdges r).length ≤ 2
  | [] => Nat.zero_le _
  | [_] => by simp [rowEdges]
  | [_, _] => by simp [rowEdges]
  | _ :: _ :: _ :: _ => Nat.zero_le _
theorem rowEdges_lt : ∀ {r : List Nat}, (∀ k ∈ r, k < 6) → ∀ e ∈ rowEdges r, e.1 < 6 ∧ e.2 < 6
  | [], _, e, he => by simp [rowEdges] at he
  | [a], h, e, he => by
    have ha := h a (by simp)
    simp only [rowEdges, List.mem_singleton] at he
    subst he; exact ⟨ha, ha⟩
  | [a, b], h, e, he => by
    have ha := h a (by simp)
    have hb := h b (by simp)
    simp only [rowEdges, List.mem_cons, List.not_mem_nil, or_false] at he
    rcases he with rfl | rfl
    · exact ⟨ha, hb⟩
    · exact ⟨hb, ha⟩
  | _ :: _ :: _ :: _, _, e, he => by simp [rowEdges] at he
theorem len_one {r : List Nat} (h : r.length = 1) : ∃ a, r = [a] := List.length_eq_one_iff.mp h
theorem len_two {r : List Nat} (h : r.length = 2) : ∃ a b, r = [a, b] := by
  match r, h with
  | [a, b], _ => exact ⟨a, b, rfl⟩
theorem inner_one {h₀ h : Heap} {L l : Addr} {ol oI : Obj} {inner : Led} {D3 l2 T2 T1 a1 t1 I : Addr} {o2 oT2 o1 : Obj} {n3 nT n2 : Nat} {u1 u2 : Tok} {a : Nat} (N : News h₀ L h ((D3, listOf [Value.ref T1].toArray n3) :: (l2, o2) :: (T2, oT2) :: (T1, tupO [.ref t1, .ref t1] nT) :: (a1, o1) :: (t1, tupO [.str (sgk a) u1, .str (sgk (opp a)) u2] n2) :: (I, oI) :: (l, ol) :: inner))
    (d1 : @Ne Nat D3 l) (d4 : @Ne Nat T1 l) (d6 : @Ne Nat t1 l) (d7 : @Ne Nat I l) :
    ∃ (pre : Led) (vs : List Value) (n : Nat), News h₀ L h (pre ++ (l, ol) :: inner) ∧ EdgesAt pre vs [(a, a)] ∧ (D3, listOf vs.toArray n) ∈ pre ∧ (I, oI) ∈ pre ∧ ∀ p ∈ pre, @Ne Nat p.1 l := by
  refine ⟨[(D3, listOf [Value.ref T1].toArray n3), (T1, tupO [.ref t1, .ref t1] nT), (t1, tupO [.str (sgk a) u1, .str (sgk (opp a)) u2] n2), (I, oI)], [.ref T1], n3,
    news_sub N (by k_mem) (news_sub N (by k_mem) (news_sub N (by k_mem) (news_sub N (by k_mem) fun p hp => N p (.tail _ (.tail _ (.tail _ (.tail _ (.tail _ (.tail _ (.tail _ hp)))))))))),
    ⟨⟨T1, nT, t1, n2, t1, n2, u1, u2, u1, u2, rfl, by k_mem, by k_mem, by k_mem⟩, trivial⟩, by k_mem, by k_mem,
    List.forall_mem_cons.mpr ⟨d1, List.forall_mem_cons.mpr ⟨d4, List.forall_mem_cons.mpr ⟨d6, List.forall_mem_cons.mpr ⟨d7, List.forall_mem_nil _⟩⟩⟩⟩⟩
theorem row_one {led : Led} {x : Value} {a : Nat} (h : DatIn led x (rowD [a])) : ∃ a1 n1 t1 n2 u1 u2, x = .ref a1 ∧ (a1, listOf [Value.ref t1].toArray n1) ∈ led ∧ (t1, tupO [.str (sgk a) u1, .str (sgk (opp a)) u2] n2) ∈ led := by
  obtain ⟨a1, vs, n1, hm, ha⟩ := dat_list h
  obtain ⟨v, us, rfl, h1, h2⟩ := dat_cons ha
  obtain rfl := dat_nil h2
  obtain ⟨t1, n2, u1, u2, rfl, m1⟩ := dat_two h1
  exact ⟨a1, n1, t1, n2, u1, u2, rfl, hm, m1⟩
theorem row_two {led : Led} {x : Value} {a b : Nat} (h : DatIn led x (rowD [a, b])) : ∃ a1 n1 t1 n2 u1 u2 t2 n3 u3 u4, x = .ref a1 ∧ (a1, listOf [Value.ref t1, .ref t2].toArray n1) ∈ led ∧ (t1, tupO [.str (sgk a) u1, .str (sgk (opp a)) u2] n2) ∈ led ∧ (t2, tupO [.str (sgk b) u3, .str (sgk (opp b)) u4] n3) ∈ led := by
  obtain ⟨a1, vs, n1, hm, ha⟩ := dat_list h
  obtain ⟨v, us, rfl, h1, h2⟩ := dat_cons ha
  obtain ⟨v2, us', rfl, h3, h4⟩ := dat_cons h2
  obtain rfl := dat_nil h4
  obtain ⟨t1, n2, u1, u2, rfl, m1⟩ := dat_two h1
  obtain ⟨t2, n3, u3, u4, rfl, m2⟩ := dat_two h3
  exact ⟨a1, n1, t1, n2, u1, u2, t2, n3, u3, u4, rfl, hm, m1, m2⟩
theorem inner_two {h₀ h : Heap} {L l : Addr} {ol oI : Obj} {inner : Led} {D3 l2 T1 T2 a1 t1 t2 I : Addr} {o2 o1 : Obj} {n3 nT nT2 n2 n2' : Nat} {u1 u2 u3 u4 : Tok} {a b : Nat} (N : News h₀ L h ((D3, listOf [Value.ref T1, Value.ref T2].toArray n3) :: (l2, o2) :: (T2, tupO [.ref t2, .ref t1] nT2) :: (T1, tupO [.ref t1, .ref t2] nT) :: (a1, o1) :: (t1, tupO [.str (sgk a) u1, .str (sgk (opp a)) u2] n2) :: (t2, tupO [.str (sgk b) u3, .str (sgk (opp b)) u4] n2') :: (I, oI) :: (l, ol) :: inner))
    (d1 : @Ne Nat D3 l) (d4 : @Ne Nat T1 l) (d5 : @Ne Nat T2 l) (d6 : @Ne Nat t1 l) (d7 : @Ne Nat t2 l) (d8 : @Ne Nat I l) :
    ∃ (pre : Led) (vs : List Value) (n : Nat), News h₀ L h (pre ++ (l, ol) :: inner) ∧ EdgesAt pre vs [(a, b), (b, a)] ∧ (D3, listOf vs.toArray n) ∈ pre ∧ (I, oI) ∈ pre ∧ ∀ p ∈ pre, @Ne Nat p.1 l := by
  refine ⟨[(D3, listOf [Value.ref T1, Value.ref T2].toArray n3), (T2, tupO [.ref t2, .ref t1] nT2), (T1, tupO [.ref t1, .ref t2] nT), (t1, tupO [.str (sgk a) u1, .str (sgk (opp a)) u2] n2), (t2, tupO [.str (sgk b) u3, .str (sgk (opp b)) u4] n2'), (I, oI)], [.ref T1, .ref T2], n3,
    news_sub N (by k_mem) (news_sub N (by k_mem) (news_sub N (by k_mem) (news_sub N (by k_mem) (news_sub N (by k_mem) (news_sub N (by k_mem) fun p hp => N p (.tail _ (.tail _ (.tail _ (.tail _ (.tail _ (.tail _ (.tail _ (.tail _ hp))))))))))))),
    ⟨⟨T1, nT, t1, n2, t2, n2', u1, u2, u3, u4, rfl, by k_mem, by k_mem, by k_mem⟩, ⟨T2, nT2, t2, n2', t1, n2, u3, u4, u1, u2, rfl, by k_mem, by k_mem, by k_mem⟩, trivial⟩, by k_mem, by k_mem,
    List.forall_mem_cons.mpr ⟨d1, List.forall_mem_cons.mpr ⟨d5, List.forall_mem_cons.mpr ⟨d4, List.forall_mem_cons.mpr ⟨d6, List.forall_mem_cons.mpr ⟨d7, List.forall_mem_cons.mpr ⟨d8, List.forall_mem_nil _⟩⟩⟩⟩⟩⟩⟩
section
local macro_rules | `(tactic| walk_at "exec Assign cons DictComp") => `(tactic| (k_here; refine hold_in ?_))
local macro_rules | `(tactic| walk_at "exec For Name Call cons nil") => `(tactic| (k_here; refine hold_in ?_))
local macro_rules | `(tactic| walk_at "exec For Name Call") => `(tactic| (k_here; refine hold_in ?_))
local macro_rules | `(tactic| walk_at "call builtin:len") => `(tactic| (k_here; k_dflt (refine lenL (by k_asm) (by first | k_mem | exact List.mem_cons_of_mem _ (List.mem_append_right _ (by assumption))) (by first | assumption | omega | (simp; omega)) ?_); intro t' tk'))
local macro_rules | `(tactic| walk_at "subscriptTail") => `(tactic| ((fail_if_success (with_reducible show wpAny _ _ (subscriptTail _ _ (Value.ref _) (Value.int 0 _)) _ _ _)); (fail_if_success (with_reducible show wpAny _ _ (subscriptTail _ _ (Value.ref _) (Value.int 1 _)) _ _ _)); (fail_if_success (with_reducible show wpAny _ _ (subscriptTail _ _ (Value.ref _) (Value.int (-1) _)) _ _ _)); (fail_if_success (with_reducible show wpAny _ _ (subscriptTail _ _ (Value.ref _) (Value.ref _)) _ _ _)); refine hold_in ?_))
local macro_rules | `(tactic| walk_at "exec For Tuple Subscript cons nil") => `(tactic| (k_here; refine hold_in ?_))
local macro_rules | `(tactic| walk_at "exec For Tuple Subscript") => `(tactic| (k_here; refine hold_in ?_))
local macro_rules | `(tactic| walk_at "pyIter ref") => `(tactic| (k_here; refine hold_in ?_))
local macro_rules | `(tactic| walk_at "call ref") => `(tactic| (k_here; refine hold_in ?_))
local macro_rules | `(tactic| walk_at "eval Dict") => `(tactic| (k_here; k_dflt (refine kdn_eval (knd := PySem.strKind _ _) (by k_asm) (by k_asm) (by exact Top.nolimit (by k_asm)) (by rfl) (by rfl) (by exact List.cons_ne_nil _ _) (by exact Nat.le_of_ble_eq_true rfl) ?_); intro d' h' o' F' N' l1 lo' hd'; (try k_lt l1)))
local macro_rules | `(tactic| walk_at "setItem ref str") => `(tactic| (k_here; refine hold_in ?_))
theorem c_calls (w : World) (news led : Led) (lr c : Nat) (rvs : List Value) (rows : List (List Nat)) (hs : ∀ p ∈ led, p ∈ news) (hl : (lr, listOf rvs.toArray c) ∈ led) (hr : DatAll led rvs (rows.map rowD))
    (hok : ∀ r ∈ rows, (r.length = 1 ∨ r.length = 2) ∧ ∀ k ∈ r, k < 6) (hn : rows.length ≤ 6) : Con w 81 news [.ref lr] 2 (OutF w (callsOf rows)) := by
  have hrl : rvs.length ≤ 64 := by have := hr.length; simp only [List.length_map] at this; omega
  walk_at "BODY"
  refine Hold.out ?_
  (rename Fr _ _ _ _ => lF); (rename News _ _ _ _ => lN); (rename Top _ _ _ _ _ _ => lT)
  k_dflt (refine Assign_DictComp_new (F₀ := lF) (by rfl) (by with_unfolding_all rfl) (by rfl) (by decide) (by rfl) (by decide) (by rfl) (by rfl) (by rfl) (by decide) ?_)
  k_steps
  k_dflt (refine CompSrcD.text (by decide +kernel) (by decide +kernel) (by decide +kernel) (by rfl) lF lN lT.nolimit ?_)
  intro g D oD dl kvs h tk F' N' off hlo2 lo hd hdn
  clear lF lN
  (try dsimp only)
  k_steps
  refine Hold.out ?_
  (rename Fr _ _ _ _ => lF)
  refine For_turns lF ?_ (by intro _; rfl) (by passes_own)
  k_steps
  refine Hold.out ?_
  rename IsRange _ _ _ _ _ _ _ _ => lR
  (rename Fr _ _ _ _ => lF); (rename News _ _ _ _ => lN)
  k_dflt (refine' iter_range (JCalls w led rows (callsOf rows)) ?F ?N ?hh ?hr ?hb ?hz ?j ?turn ?done)
  case F => exact lF
  case N => exact lN
  case hh => rfl
  case hr => exact lR
  case hb => rfl
  case hz => omega
  case j => exact ⟨_, _, _, _, _, _, _, _, _, _, rfl, names4 _ _ _ _, rfl, fam_new hd hdn (fun p hp => List.mem_append_left _ hp) hlo2, fun p hp => List.mem_append_right _ hp, off, (fun p hp => by
    rcases List.mem_append.mp hp with hp | hp
    · exact .inr (di_cls (hdn.2.2 p hp).2)
    · exact .inl hp), rfl, fun i _ => Nat.zero_le _⟩
  case turn =>
    walk_at "DROP"
    rintro i m nw hi ⟨q1, q2, q3, q4, l, ol0, ol, r0, inner, f, hn, rfl, rfl, hfam, hled, hoff, hcl, hgo, hfl⟩ I t h tk oI l1 hI F N
    injection hn with e1 e2
    injection e1 with e3 e4
    subst e2 e4
    obtain rfl := e3.symm
    k_lt l1
    have lI := l1
    (try dsimp only)
    (try walk_at "FOLD")
    k_steps
    refine Hold.out ?_
    (rename News _ _ _ _ => lN)
    have hri : i < rvs.length := hi
    have hir : i < rows.length := by have := hr.length; simp only [List.length_map] at this; omega
    refine subL lN (List.mem_cons_of_mem _ (List.mem_cons_of_mem _ (hled _ hl))) (Int.natCast_nonneg _) (Int.ofNat_lt.mpr hri) hrl (fun x hx => ?_) (by with_unfolding_all rfl)
    obtain ⟨v, hv, hD⟩ := hr.get (k := i) (by simpa using hir)
    have hx : rvs[i]? = some x := hx
    obtain rfl : v = x := Option.some.inj (hv.symm.trans hx)
    rw [List.getElem_map] at hD
    have hdrop : rows.drop i = rows[i] :: rows.drop (i + 1) := List.drop_eq_getElem_cons hir
    obtain ⟨hrlen, hrk⟩ := hok rows[i] (List.getElem_mem hir)
    generalize rows[i] = r at *
    clear hv hx
    have hrw6 := rowEdges_lt hrk
    rcases hrlen with hrlen | hrlen
    · refine foldP fun G hG => ?_
      obtain ⟨a, har⟩ := len_one hrlen
      obtain ⟨a1, n1, t1, n2, u1, u2, zr1, m1, m2⟩ := row_one (har ▸ hD)
      refine hG ?_
      clear hG G
      subst zr1
      have N2 : News _ _ _ ([(a1, listOf [Value.ref t1].toArray n1), (t1, tupO [.str (sgk a) u1, .str (sgk (opp a)) u2] n2), (I, oI), (l, ol)] ++ inner) :=
        news_sub lN (.tail _ (.tail _ (hled _ m1))) (news_sub lN (.tail _ (.tail _ (hled _ m2))) (news_sub lN (.head _) (news_sub lN (.tail _ (.head _)) fun p hp => lN p (.tail _ (.tail _ hp)))))
      simp only [List.cons_append, List.nil_append] at N2
      clear lN
      k_steps
      refine Hold.out ?_
      (rename Fr _ _ _ _ => lF)
      refine For_turns lF ?_ (by intro _; rfl) (by passes_own)
      k_steps
      refine Hold.out ?_
      (rename Fr _ _ _ _ => lF); (rename News _ _ _ _ => lN)
      have hh := inner_one (a := a) (t1 := t1) (a1 := a1) (I := I) (l := l) (ol := ol) (oI := oI) (inner := inner) lN
      have d6 := hoff _ (hled _ m2)
      have d7 : @Ne Nat I l := Nat.ne_of_gt lI.1
      replace hh := hh (by k_ne) (by k_ne) d6 d7
      refine foldP fun G hG => ?_
      obtain ⟨pre, vs3, m4, N3, hE, hD3, hI3, hoff3⟩ := hh
      refine hG ?_
      clear hG G
      clear lN
      have hE : EdgesAt pre vs3 (rowEdges r) := by rw [har]; exact hE
      k_dflt (refine' iter_list (vs := vs3) (n := m4) (news := pre ++ (l, ol) :: inner) (JEdge w led pre l ((i : Int) + 1) (callsStep f ((i : Int) + 1) r) (2 * i + 2)) ?iF ?iN ?ih ?im ?ij ?iturn ?idone)
      case iF => exact lF
      case iN => exact N3
      case ih => rfl
      case im => exact List.mem_append_left _ hD3
      case ij =>
        exact ⟨_, _, ol, inner, f, rowEdges r, names2 _ _, rfl, hfam, hled, hoff, hcl, hE, hrw6, rfl, fun i' hi' => by have := hfl i' hi'; have := rowEdges_len r; omega⟩
      case iturn =>
        (try clear lF); (try clear N3)
        intro c rr m nw hJ
        apply hJ.on
        clear hJ
        intro p1 p2 ol' inner' f' es hfam' hled' hoff' hcl' hE' hes hgo' hB I2 h2 tk2 oI2 l2 hI2 F2 N2
        match es, hE' with
        | e :: es', ⟨⟨T, n, tg, ng, to, no, u1, u2, u3, u4, hc, mT, mg, mo⟩, hE2⟩ =>
          subst hc
          have hoffA : ∀ p ∈ pre ++ inner', @Ne Nat p.1 l := fun p hp => by
            rcases List.mem_append.mp hp with hp | hp
            · exact hoff3 p hp
            · exact hoff' p hp
          have N4 : News _ _ _ ([(I2, oI2), (T, tupO [.ref tg, .ref to] n), (tg, tupO [.str (sgk e.1) u1, .str (sgk (opp e.1)) u2] ng), (to, tupO [.str (sgk e.2) u3, .str (sgk (opp e.2)) u4] no), (l, ol')] ++ (pre ++ inner')) :=
            news_sub N2 (.head _) (news_sub N2 (.tail _ (List.mem_append_left _ mT)) (news_sub N2 (.tail _ (List.mem_append_left _ mg)) (news_sub N2 (.tail _ (List.mem_append_left _ mo)) (news_sub N2 (.tail _ (List.mem_append_right _ (.head _))) fun p hp => N2 p (.tail _ (mem_skip hp))))))
          simp only [List.cons_append, List.nil_append] at N4
          clear N2
          (try dsimp only)
          (try walk_at "FOLD")
          have hei : (i : Nat) ≤ 6 := by have := hr.length; simp only [List.length_map] at this; omega
          have hg := (hes e (List.mem_cons_self ..)).1
          have hBg := hB e.1 hg
          refine foldP fun G hG => ?_
          obtain ⟨kv2, hdk, hlen2, hf2⟩ := hfam'
          obtain ⟨d, od, v1, v2, v3, v4⟩ := hf2 e.1 hg
          refine hG ?_
          clear hG G
          k_steps
          refine Hold.out ?_
          (rename News _ _ _ _ => lN)
          refine kda_item (knd := PySem.strKind PR w) lN (List.mem_cons_of_mem _ (List.mem_cons_of_mem _ (List.mem_cons_of_mem _ (List.mem_cons_of_mem _ (List.mem_cons_self ..))))) hdk (strKind_is _ _ _ _) v1 ?_
          k_steps
          refine Hold.out ?_
          clear lN
          (rename News _ _ _ _ => lN)
          rename (_ == sysModules) = false => lo9
          rename Obj.IsDictOf _ _ (strPairs _) => hd9
          rename PyProof.V.FlatPairs _ (strPairs _) _ => hf9
          have hDI9 : DI w _ _ [(sgk (opp e.2), (i : Int) + 1)] := ⟨lo9, _, hd9, hf9⟩
          refine' (c_add w _ d _ od _ (f' e.1) [(sgk (opp e.2), (i : Int) + 1)] ?cm1 ?cm2 v3 hDI9 ?cb1 ?cb2).use _ _ _ _ _ _ _ _ _ _ _ _ _ _ _ _ _ _ _ _ _ ?cB ?cF ?cX ?cN ?cT ?cK ?cD ?cU ?_
          case cN => exact lN
          case cm1 => simp only [List.mem_cons, List.mem_append, v2, or_true]
          case cm2 => exact List.mem_cons_self ..
          case cb1 => omega
          case cb2 => simp
          case cB => k_asm
          case cF => k_asm
          case cX => k_asm
          case cT => k_asm
          case cK => exact rfl
          case cD => ktr_room
          case cU => units_room
          intro v9 new9 h9 tk9 F9 N9 off9 hD9
          refine foldP fun G hG => ?_
          obtain ⟨dn, on, zr1, zr2, hDIn⟩ := hD9
          refine hG ?_
          clear hG G
          subst zr1
          subst zr2
          simp only [List.cons_append, List.nil_append] at N9
          clear lN
          (try dsimp only)
          k_sweep
          k_steps
          refine Hold.out ?_
          (rename Fr _ _ _ _ => lF); (rename News _ _ _ _ => lN)
          have qI : @Ne Nat I2 l := Nat.ne_of_gt (l2 (l, ol) (by simp))
          have qn : @Ne Nat dn l := (off9 (l, ol') (by simp) (dn, on) (by simp)).symm
          have N10 : News _ _ _ ((l, ol') :: ([(I2, oI2), (dn, on)] ++ (pre ++ inner'))) :=
            news_sub lN (by k_mem) (news_sub lN (by k_mem) (news_sub lN (by k_mem) fun p hp => lN p (by repeat' (first | exact hp | refine List.Mem.tail _ ?_))))
          have hUA : ∀ p ∈ [(I2, oI2), (dn, on)] ++ (pre ++ inner'), @Ne Nat p.1 l := List.forall_mem_cons.mpr ⟨qI, List.forall_mem_cons.mpr ⟨qn, hoffA⟩⟩
          refine kda_set (knd := PySem.strKind PR w) lF N10 (UpdF.head hUA) hdk (strKind_is _ _ _ _) (by rw [hlen2, sizeLine_eq]; omega) (fun h10 ol10 F10 N10' hd10 => ?_)
          have qnI : @Ne Nat dn I2 := (off9 (I2, oI2) (by simp) (dn, on) (by simp)).symm
          have qled : ∀ q ∈ led, @Ne Nat q.1 dn := fun q hq => off9 q (by simp only [List.mem_cons, List.mem_append, hled' q hq, or_true]) (dn, on) (by simp)
          clear lF lN N10
          k_steps
          refine ⟨_, _, _, pre ++ (l, ol10) :: ((dn, on) :: inner'), rfl, F10, fun p hp => N10' p ?_, fun p hp q hq => ?_, ⟨List.mem_append_left _ hD3, trivial⟩, ?_⟩
          · simp only [List.mem_append, List.mem_cons, List.not_mem_nil, or_false] at hp ⊢
            rcases hp with rfl | hp | rfl | rfl | hp <;> simp [*]
          · rw [List.mem_singleton.mp hq]
            rcases List.mem_append.mp hp with hp | hp
            · exact Nat.ne_of_lt (l2 p (List.mem_append_left _ hp))
            · rcases List.mem_cons.mp hp with rfl | hp
              · exact qI.symm
              · rcases List.mem_cons.mp hp with rfl | hp
                · exact qnI
                · rcases hcl' p hp with hp2 | hp2
                  · exact Nat.ne_of_lt (l2 p (List.mem_append_right _ (List.mem_cons_of_mem _ (hled p hp2))))
                  · exact cls_apart (NewsAt.mk N10' (by simp [hp])) (NewsAt.mk N10' (show (I2, oI2) ∈ _ by simp)) hp2 hI2 (by decide)
          · refine ⟨_, _, ol10, (dn, on) :: inner', fun i' => if i' = e.1 then addC (f' e.1) [(sgk (opp e.2), (i : Int) + 1)] else f' i', es', names2g _ _, rfl, Fam.put hg hd10 hlen2 hf2 (fun p hp => List.mem_cons_of_mem _ hp) (List.mem_cons_self ..) hDIn qled, fun p hp => List.mem_cons_of_mem _ (hled' p hp), ?_, (fun p hp => by
              rcases List.mem_cons.mp hp with rfl | hp
              · exact .inr (by obtain ⟨_, _, h9, _⟩ := hDIn; exact di_cls h9)
              · exact hcl' p hp), hE2, fun e' he' => hes e' (List.mem_cons_of_mem _ he'), hgo', fun i' hi' => ?_⟩
            · intro p hp
              rcases List.mem_cons.mp hp with rfl | hp
              · exact qn
              · exact hoff' p hp
            · have hB1 := hB i' hi'
              have hB2 := addC_one_len (f' e.1) (sgk (opp e.2), (i : Int) + 1)
              simp only [List.length_cons] at hB1 hBg
              show List.length (if i' = e.1 then _ else _) + _ ≤ _
              by_cases hie : i' = e.1
              · rw [if_pos hie]; omega
              · rw [if_neg hie]; omega
      case idone =>
        (try clear lF); (try clear N3)
        intro m nw hJ
        apply hJ.on
        clear hJ
        intro p1 p2 ol' inner' f' es hfam' hled' hoff' hcl' hE' hes hgo' hB h2 tk2 F2 N2
        match es, hE' with
        | [], _ =>
          (try dsimp only)
          (try walk_at "FOLD")
          k_steps
          refine ⟨_, _, _, (l, ol') :: inner', rfl, F2, fun p hp => N2 p ?_, fun p hp q hq => ?_, trivial, ?_⟩
          · simp only [List.mem_append, List.mem_cons, List.not_mem_nil, or_false] at hp ⊢
            rcases hp with rfl | rfl | hp
            · exact .inl hI3
            · exact .inr (.inl rfl)
            · exact .inr (.inr hp)
          · rw [List.mem_singleton.mp hq]
            rcases List.mem_cons.mp hp with rfl | hp
            · exact Nat.ne_of_lt lI.1
            · rcases hcl' p hp with hp2 | hp2
              · exact Nat.ne_of_lt (ktn_ltOf lI.2 p (List.mem_append_right _ hp2))
              · exact cls_apart (NewsAt.mk N2 (by simp [hp])) (NewsAt.mk N2 (List.mem_append_left _ hI3)) hp2 hI (by decide)
          · refine ⟨_, _, _, _, l, _, ol', _, inner', f', rfl, names4g _ _ _ _ _ ?_, rfl, hfam', hled', hoff', hcl', ?_, fun i' hi' => ?_⟩
            · intro y n1 n2 n3 n4
              simp [n1, n2, n3, n4]
            · have hgo' : f' = callsStep f ((i : Int) + 1) r := hgo'
              rw [hdrop] at hgo
              rw [hgo']
              exact hgo
            · have := hB i' hi'
              simp only [List.length_nil] at this
              omega
    · refine foldP fun G hG => ?_
      obtain ⟨a, b, har⟩ := len_two hrlen
      obtain ⟨a1, n1, t1, n2, u1, u2, t2, n3, u3, u4, zr1, m1, m2, m3⟩ := row_two (har ▸ hD)
      refine hG ?_
      clear hG G
      subst zr1
      have N2 : News _ _ _ ([(a1, listOf [Value.ref t1, Value.ref t2].toArray n1), (t1, tupO [.str (sgk a) u1, .str (sgk (opp a)) u2] n2), (t2, tupO [.str (sgk b) u3, .str (sgk (opp b)) u4] n3), (I, oI), (l, ol)] ++ inner) :=
        news_sub lN (.tail _ (.tail _ (hled _ m1))) (news_sub lN (.tail _ (.tail _ (hled _ m2))) (news_sub lN (.tail _ (.tail _ (hled _ m3))) (news_sub lN (.head _) (news_sub lN (.tail _ (.head _)) fun p hp => lN p (.tail _ (.tail _ hp))))))
      simp only [List.cons_append, List.nil_append] at N2
      clear lN
      k_steps
      refine Hold.out ?_
      (rename Fr _ _ _ _ => lF)
      refine For_turns lF ?_ (by intro _; rfl) (by passes_own)
      k_steps
      refine Hold.out ?_
      (rename Fr _ _ _ _ => lF); (rename News _ _ _ _ => lN)
      have hh := inner_two (a := a) (b := b) (t1 := t1) (t2 := t2) (a1 := a1) (I := I) (l := l) (ol := ol) (oI := oI) (inner := inner) lN
      have d6 := hoff _ (hled _ m2)
      have d8 := hoff _ (hled _ m3)
      have d7 : @Ne Nat I l := Nat.ne_of_gt lI.1
      replace hh := hh (by k_ne) (by k_ne) (by k_ne) d6 d8 d7
      refine foldP fun G hG => ?_
      obtain ⟨pre, vs3, m4, N3, hE, hD3, hI3, hoff3⟩ := hh
      refine hG ?_
      clear hG G
      clear lN
      have hE : EdgesAt pre vs3 (rowEdges r) := by rw [har]; exact hE
      k_dflt (refine' iter_list (vs := vs3) (n := m4) (news := pre ++ (l, ol) :: inner) (JEdge w led pre l ((i : Int) + 1) (callsStep f ((i : Int) + 1) r) (2 * i + 2)) ?iF ?iN ?ih ?im ?ij ?iturn ?idone)
      case iF => exact lF
      case iN => exact N3
      case ih => rfl
      case im => exact List.mem_append_left _ hD3
      case ij =>
        exact ⟨_, _, ol, inner, f, rowEdges r, names2 _ _, rfl, hfam, hled, hoff, hcl, hE, hrw6, rfl, fun i' hi' => by have := hfl i' hi'; have := rowEdges_len r; omega⟩
      case iturn =>
        (try clear lF); (try clear N3)
        intro c rr m nw hJ
        apply hJ.on
        clear hJ
        intro p1 p2 ol' inner' f' es hfam' hled' hoff' hcl' hE' hes hgo' hB I2 h2 tk2 oI2 l2 hI2 F2 N2
        match es, hE' with
        | e :: es', ⟨⟨T, n, tg, ng, to, no, u1, u2, u3, u4, hc, mT, mg, mo⟩, hE2⟩ =>
          subst hc
          have hoffA : ∀ p ∈ pre ++ inner', @Ne Nat p.1 l := fun p hp => by
            rcases List.mem_append.mp hp with hp | hp
            · exact hoff3 p hp
            · exact hoff' p hp
          have N4 : News _ _ _ ([(I2, oI2), (T, tupO [.ref tg, .ref to] n), (tg, tupO [.str (sgk e.1) u1, .str (sgk (opp e.1)) u2] ng), (to, tupO [.str (sgk e.2) u3, .str (sgk (opp e.2)) u4] no), (l, ol')] ++ (pre ++ inner')) :=
            news_sub N2 (.head _) (news_sub N2 (.tail _ (List.mem_append_left _ mT)) (news_sub N2 (.tail _ (List.mem_append_left _ mg)) (news_sub N2 (.tail _ (List.mem_append_left _ mo)) (news_sub N2 (.tail _ (List.mem_append_right _ (.head _))) fun p hp => N2 p (.tail _ (mem_skip hp))))))
          simp only [List.cons_append, List.nil_append] at N4
          clear N2
          (try dsimp only)
          (try walk_at "FOLD")
          have hei : (i : Nat) ≤ 6 := by have := hr.length; simp only [List.length_map] at this; omega
          have hg := (hes e (List.mem_cons_self ..)).1
          have hBg := hB e.1 hg
          refine foldP fun G hG => ?_
          obtain ⟨kv2, hdk, hlen2, hf2⟩ := hfam'
          obtain ⟨d, od, v1, v2, v3, v4⟩ := hf2 e.1 hg
          refine hG ?_
          clear hG G
          k_steps
          refine Hold.out ?_
          (rename News _ _ _ _ => lN)
          refine kda_item (knd := PySem.strKind PR w) lN (List.mem_cons_of_mem _ (List.mem_cons_of_mem _ (List.mem_cons_of_mem _ (List.mem_cons_of_mem _ (List.mem_cons_self ..))))) hdk (strKind_is _ _ _ _) v1 ?_
          k_steps
          refine Hold.out ?_
          clear lN
          (rename News _ _ _ _ => lN)
          rename (_ == sysModules) = false => lo9
          rename Obj.IsDictOf _ _ (strPairs _) => hd9
          rename PyProof.V.FlatPairs _ (strPairs _) _ => hf9
          have hDI9 : DI w _ _ [(sgk (opp e.2), (i : Int) + 1)] := ⟨lo9, _, hd9, hf9⟩
          refine' (c_add w _ d _ od _ (f' e.1) [(sgk (opp e.2), (i : Int) + 1)] ?cm1 ?cm2 v3 hDI9 ?cb1 ?cb2).use _ _ _ _ _ _ _ _ _ _ _ _ _ _ _ _ _ _ _ _ _ ?cB ?cF ?cX ?cN ?cT ?cK ?cD ?cU ?_
          case cN => exact lN
          case cm1 => simp only [List.mem_cons, List.mem_append, v2, or_true]
          case cm2 => exact List.mem_cons_self ..
          case cb1 => omega
          case cb2 => simp
          case cB => k_asm
          case cF => k_asm
          case cX => k_asm
          case cT => k_asm
          case cK => exact rfl
          case cD => ktr_room
          case cU => units_room
          intro v9 new9 h9 tk9 F9 N9 off9 hD9
          refine foldP fun G hG => ?_
          obtain ⟨dn, on, zr1, zr2, hDIn⟩ := hD9
          refine hG ?_
          clear hG G
          subst zr1
          subst zr2
          simp only [List.cons_append, List.nil_append] at N9
          clear lN
          (try dsimp only)
          k_sweep
          k_steps
          refine Hold.out ?_
          (rename Fr _ _ _ _ => lF); (rename News _ _ _ _ => lN)
          have qI : @Ne Nat I2 l := Nat.ne_of_gt (l2 (l, ol) (by simp))
          have qn : @Ne Nat dn l := (off9 (l, ol') (by simp) (dn, on) (by simp)).symm
          have N10 : News _ _ _ ((l, ol') :: ([(I2, oI2), (dn, on)] ++ (pre ++ inner'))) :=
            news_sub lN (by k_mem) (news_sub lN (by k_mem) (news_sub lN (by k_mem) fun p hp => lN p (by repeat' (first | exact hp | refine List.Mem.tail _ ?_))))
          have hUA : ∀ p ∈ [(I2, oI2), (dn, on)] ++ (pre ++ inner'), @Ne Nat p.1 l := List.forall_mem_cons.mpr ⟨qI, List.forall_mem_cons.mpr ⟨qn, hoffA⟩⟩
          refine kda_set (knd := PySem.strKind PR w) lF N10 (UpdF.head hUA) hdk (strKind_is _ _ _ _) (by rw [hlen2, sizeLine_eq]; omega) (fun h10 ol10 F10 N10' hd10 => ?_)
          have qnI : @Ne Nat dn I2 := (off9 (I2, oI2) (by simp) (dn, on) (by simp)).symm
          have qled : ∀ q ∈ led, @Ne Nat q.1 dn := fun q hq => off9 q (by simp only [List.mem_cons, List.mem_append, hled' q hq, or_true]) (dn, on) (by simp)
          clear lF lN N10
          k_steps
          refine ⟨_, _, _, pre ++ (l, ol10) :: ((dn, on) :: inner'), rfl, F10, fun p hp => N10' p ?_, fun p hp q hq => ?_, ⟨List.mem_append_left _ hD3, trivial⟩, ?_⟩
          · simp only [List.mem_append, List.mem_cons, List.not_mem_nil, or_false] at hp ⊢
            rcases hp with rfl | hp | rfl | rfl | hp <;> simp [*]
          · rw [List.mem_singleton.mp hq]
            rcases List.mem_append.mp hp with hp | hp
            · exact Nat.ne_of_lt (l2 p (List.mem_append_left _ hp))
            · rcases List.mem_cons.mp hp with rfl | hp
              · exact qI.symm
              · rcases List.mem_cons.mp hp with rfl | hp
                · exact qnI
                · rcases hcl' p hp with hp2 | hp2
                  · exact Nat.ne_of_lt (l2 p (List.mem_append_right _ (List.mem_cons_of_mem _ (hled p hp2))))
                  · exact cls_apart (NewsAt.mk N10' (by simp [hp])) (NewsAt.mk N10' (show (I2, oI2) ∈ _ by simp)) hp2 hI2 (by decide)
          · refine ⟨_, _, ol10, (dn, on) :: inner', fun i' => if i' = e.1 then addC (f' e.1) [(sgk (opp e.2), (i : Int) + 1)] else f' i', es', names2g _ _, rfl, Fam.put hg hd10 hlen2 hf2 (fun p hp => List.mem_cons_of_mem _ hp) (List.mem_cons_self ..) hDIn qled, fun p hp => List.mem_cons_of_mem _ (hled' p hp), ?_, (fun p hp => by
              rcases List.mem_cons.mp hp with rfl | hp
              · exact .inr (by obtain ⟨_, _, h9, _⟩ := hDIn; exact di_cls h9)
              · exact hcl' p hp), hE2, fun e' he' => hes e' (List.mem_cons_of_mem _ he'), hgo', fun i' hi' => ?_⟩
            · intro p hp
              rcases List.mem_cons.mp hp with rfl | hp
              · exact qn
              · exact hoff' p hp
            · have hB1 := hB i' hi'
              have hB2 := addC_one_len (f' e.1) (sgk (opp e.2), (i : Int) + 1)
              simp only [List.length_cons] at hB1 hBg
              show List.length (if i' = e.1 then _ else _) + _ ≤ _
              by_cases hie : i' = e.1
              · rw [if_pos hie]; omega
              · rw [if_neg hie]; omega
      case idone =>
        (try clear lF); (try clear N3)
        intro m nw hJ
        apply hJ.on
        clear hJ
        intro p1 p2 ol' inner' f' es hfam' hled' hoff' hcl' hE' hes hgo' hB h2 tk2 F2 N2
        match es, hE' with
        | [], _ =>
          (try dsimp only)
          (try walk_at "FOLD")
          k_steps
          refine ⟨_, _, _, (l, ol') :: inner', rfl, F2, fun p hp => N2 p ?_, fun p hp q hq => ?_, trivial, ?_⟩
          · simp only [List.mem_append, List.mem_cons, List.not_mem_nil, or_false] at hp ⊢
            rcases hp with rfl | rfl | hp
            · exact .inl hI3
            · exact .inr (.inl rfl)
            · exact .inr (.inr hp)
          · rw [List.mem_singleton.mp hq]
            rcases List.mem_cons.mp hp with rfl | hp
            · exact Nat.ne_of_lt lI.1
            · rcases hcl' p hp with hp2 | hp2
              · exact Nat.ne_of_lt (ktn_ltOf lI.2 p (List.mem_append_right _ hp2))
              · exact cls_apart (NewsAt.mk N2 (by simp [hp])) (NewsAt.mk N2 (List.mem_append_left _ hI3)) hp2 hI (by decide)
          · refine ⟨_, _, _, _, l, _, ol', _, inner', f', rfl, names4g _ _ _ _ _ ?_, rfl, hfam', hled', hoff', hcl', ?_, fun i' hi' => ?_⟩
            · intro y n1 n2 n3 n4
              simp [n1, n2, n3, n4]
            · have hgo' : f' = callsStep f ((i : Int) + 1) r := hgo'
              rw [hdrop] at hgo
              rw [hgo']
              exact hgo
            · have := hB i' hi'
              simp only [List.length_nil] at this
              omega
  case done =>
    walk_at "DROP"
    rintro m nw ⟨q1, q2, q3, q4, l, ol0, ol, r0, inner, f, hn, rfl, rfl, hfam, hled, hoff, hcl, hgo, hfl⟩ h tk F N
    injection hn with e1 e2
    injection e1 with e3 e4
    subst e2 e4
    obtain rfl := e3.symm
    (try dsimp only)
    (try walk_at "FOLD")
    k_steps
    (try dsimp only)
    refine foldP fun G hG => ?_
    obtain ⟨inner', hi1, hi2, hfam'⟩ := fam_filter hfam
    refine hG ?_
    clear hG G
    have hlen := hr.length
    simp only [List.length_map] at hlen
    (rename EntP _ _ _ _ _ _ _ _ _ => lX)
    refine leaveP lX (fun _ _ h => h) F N (fun p hp => List.mem_cons_of_mem _ (hled p hp)) ⟨(l, ol) :: inner', fun p hp => ?_, fun p hp q hq => ?_, l, ol, inner', rfl, rfl, fun p hp => hoff p (hi1 p hp), lo, ?_⟩
    · rcases List.mem_cons.mp hp with rfl | hp
      · exact List.mem_cons_self ..
      · exact List.mem_cons_of_mem _ (hi1 p hp)
    · rcases List.mem_cons.mp hp with rfl | hp
      · exact (hoff q (hled q hq)).symm
      · exact (hi2 p hp q hq).symm
    · rw [hlen, List.drop_length] at hgo
      have hgo : f = callsOf rows := hgo
      rw [← hgo]; exact hfam'
end

/-- texts over the six signs, none twice -/
noncomputable def K6 (c : AL) : Prop := (c.map (·.1)).Nodup ∧ ∀ p ∈ c, ∃ j, j < 6 ∧ p.1 = sgk j
theorem nodup_len {α : Type} [DecidableEq α] : ∀ {l m : List α}, l.Nodup → (∀ x ∈ l, x ∈ m) → l.length ≤ m.length
  | [], _, _, _ => Nat.zero_le _
  | x :: l, m, h, hs => by
    rw [List.nodup_cons] at h
    have hx := hs x (List.mem_cons_self ..)
    have := nodup_len (l := l) (m := m.erase x) h.2 fun y hy => (List.mem_erase_of_ne fun e => h.1 (by rw [← e]; exact hy)).mpr (hs y (List.mem_cons_of_mem _ hy))
    rw [List.length_erase_of_mem hx] at this
    have := List.length_pos_of_mem hx
    simp only [List.length_cons]; omega
theorem K6.len {c : AL} (h : K6 c) : c.length ≤ 6 := by
  have := nodup_len (m := (List.range 6).map sgk) h.1 fun x hx => by
    obtain ⟨p, hp, rfl⟩ := List.mem_map.mp hx
    obtain ⟨j, hj, e⟩ := h.2 p hp
    exact List.mem_map.mpr ⟨j, List.mem_range.mpr hj, e.symm⟩
  simpa using this
theorem put_keys_has {c : AL} {k : Str} {v : Int} (h : kdpHas c k = true) : (kdpPut c k v).map (·.1) = c.map (·.1) := by
  unfold kdpPut
  unfold kdpHas at h
  rw [if_pos h, List.map_map]
  refine List.map_congr_left fun p hp => ?_
  show (if decide (p.1 = k) = true then (p.1, v) else p).1 = p.1
  split <;> rfl
theorem put_miss {c : AL} {k : Str} {v : Int} (h : kdpHas c k = false) : kdpPut c k v = c ++ [(k, v)] := by
  unfold kdpPut
  unfold kdpHas at h
  rw [h]; rfl
theorem has_mem {c : AL} {k : Str} : kdpHas c k = true ↔ k ∈ c.map (·.1) := by
  unfold kdpHas
  rw [List.any_eq_true, List.mem_map]
  exact ⟨fun ⟨p, hp, e⟩ => ⟨p, hp, of_decide_eq_true e⟩, fun ⟨p, hp, e⟩ => ⟨p, hp, decide_eq_true e⟩⟩
theorem put_nodup {c : AL} {k : Str} {v : Int} (h : (c.map (·.1)).Nodup) : ((kdpPut c k v).map (·.1)).Nodup := by
  cases e : kdpHas c k with
  | true => rw [put_keys_has e]; exact h
  | false =>
    rw [put_miss e, List.map_append, List.nodup_append]
    refine ⟨h, by simp, fun a ha b hb => ?_⟩
    have hb : b = k := by simpa using hb
    subst hb
    intro q
    subst q
    rw [has_mem.mpr ha] at e; cases e
theorem put_mem {c : AL} {k : Str} {v : Int} {P : Str → Prop} (h : ∀ p ∈ c, P p.1) (hk : P k) : ∀ p ∈ kdpPut c k v, P p.1 := by
  intro p hp
  cases e : kdpHas c k with
  | true =>
    have : p.1 ∈ (kdpPut c k v).map (·.1) := List.mem_map_of_mem hp
    rw [put_keys_has e] at this
    obtain ⟨q, hq, e⟩ := List.mem_map.mp this
    rw [← e]; exact h q hq
  | false =>
    rw [put_miss e] at hp
    rcases List.mem_append.mp hp with hp | hp
    · exact h p hp
    · rw [List.mem_singleton.mp hp]; exact hk
theorem K6.put {c : AL} {k : Str} {v : Int} (h : K6 c) (hk : ∃ j, j < 6 ∧ k = sgk j) : K6 (kdpPut c k v) := ⟨put_nodup h.1, put_mem (P := fun x => ∃ j, j < 6 ∧ x = sgk j) h.2 hk⟩
theorem K6.addS {c : AL} {p : Str × Int} (h : K6 c) (hk : ∃ j, j < 6 ∧ p.1 = sgk j) : K6 (addS c p) := by
  unfold Mine.addS
  split <;> exact h.put hk
theorem foldl_K6 {g : AL → Str × Int → AL} (hg : ∀ a p, K6 a → (∃ j, j < 6 ∧ p.1 = sgk j) → K6 (g a p)) : ∀ (s a : AL), K6 a → (∀ p ∈ s, ∃ j, j < 6 ∧ p.1 = sgk j) → K6 (s.foldl g a)
  | [], a, h, _ => h
  | p :: s, a, h, hs => foldl_K6 hg s (g a p) (hg a p h (hs p (List.mem_cons_self ..))) fun q hq => hs q (List.mem_cons_of_mem _ hq)
theorem K6.nil : K6 [] := ⟨by simp, by simp⟩
theorem K6.addC {a b : AL} (ha : K6 a) (hb : ∀ p ∈ b, ∃ j, j < 6 ∧ p.1 = sgk j) : K6 (addC a b) :=
  foldl_K6 (fun _ _ h hk => h.addS hk) b _ (foldl_K6 (fun _ _ h hk => h.put hk) a [] .nil ha.2) hb
theorem copyC_eq {c : AL} (h : (c.map (·.1)).Nodup) : copyC c = c := by
  have : ∀ (c a : AL), ((a ++ c).map (·.1)).Nodup → c.foldl (fun a p => kdpPut a p.1 p.2) a = a ++ c := by
    intro c
    induction c with
    | nil => intro a _; simp
    | cons p c ih =>
      intro a hn
      rw [List.foldl_cons, put_miss, ih]
      · simp
      · simpa using hn
      · cases e : kdpHas a p.1 with
        | false => rfl
        | true =>
          rw [List.map_append, List.nodup_append] at hn
          exact absurd rfl (hn.2.2 p.1 (has_mem.mp e) p.1 (by simp))
  have := this c [] (by simpa using h)
  rw [List.nil_append] at this
  exact this
theorem tot_cons (p : Str × Int) (c : AL) : tot (p :: c) = p.2 + tot c := by simp [tot]
theorem tot_append (a c : AL) : tot (a ++ c) = tot a + tot c := by simp [tot]
theorem tot_put_has : ∀ {c : AL} {k : Str} {n : Int}, (c.map (·.1)).Nodup → kdpHas c k = true → tot (kdpPut c k (kdpLook c k 0 + n)) = tot c + n
  | [], k, n, _, h => by simp [kdpHas] at h
  | p :: c, k, n, hn, h => by
    rw [List.map_cons, List.nodup_cons] at hn
    have e : kdpPut (p :: c) k (kdpLook (p :: c) k 0 + n) = (p :: c).map fun q => if decide (q.1 = k) then (q.1, kdpLook (p :: c) k 0 + n) else q := by
      unfold kdpPut; unfold kdpHas at h; rw [if_pos h]
    rw [e]
    by_cases hp : p.1 = k
    · have hl : kdpLook (p :: c) k 0 = p.2 := by simp [kdpLook, hp]
      have hr : (c.map fun q => if decide (q.1 = k) = true then (q.1, kdpLook (p :: c) k 0 + n) else q) = c := by
        conv => rhs; rw [← List.map_id c]
        refine List.map_congr_left fun q hq => ?_
        have : q.1 ≠ k := fun e => hn.1 (by rw [hp, ← e]; exact List.mem_map_of_mem hq)
        simp [this]
      rw [List.map_cons, hr, hl]
      simp only [hp, decide_true, if_true, tot_cons]; omega
    · have hc : kdpHas c k = true := by unfold kdpHas at h ⊢; simpa [hp] using h
      have ih := tot_put_has (n := n) hn.2 hc
      have hl : kdpLook (p :: c) k 0 = kdpLook c k 0 := by simp [kdpLook, hp]
      have e2 : kdpPut c k (kdpLook c k 0 + n) = c.map fun q => if decide (q.1 = k) then (q.1, kdpLook c k 0 + n) else q := by
        unfold kdpPut; unfold kdpHas at hc; rw [if_pos hc]
      rw [e2] at ih
      rw [List.map_cons, hl, tot_cons, tot_cons, ih]
      simp only [hp, decide_false, Bool.false_eq_true, if_false]; omega
theorem addS_nodup {c : AL} {p : Str × Int} (h : (c.map (·.1)).Nodup) : ((addS c p).map (·.1)).Nodup := by
  unfold addS; split <;> exact put_nodup h
theorem tot_addS {c : AL} {p : Str × Int} (h : (c.map (·.1)).Nodup) : tot (addS c p) = tot c + p.2 := by
  unfold addS
  cases e : kdpHas c p.1 with
  | true => exact tot_put_has h e
  | false =>
    simp only [Bool.false_eq_true, if_false]
    rw [put_miss e]; simp [tot]
theorem tot_foldl : ∀ (s c : AL), (c.map (·.1)).Nodup → tot (s.foldl addS c) = tot c + tot s
  | [], c, _ => by simp [tot]
  | p :: s, c, h => by
    rw [List.foldl_cons, tot_foldl s _ (addS_nodup h), tot_addS h, tot_cons]; omega
theorem tot_addC {a b : AL} (h : (a.map (·.1)).Nodup) : tot (addC a b) = tot a + tot b := by
  unfold addC
  rw [copyC_eq h, tot_foldl b a h]
noncomputable def leadStep (mid goal : Nat) (f : Nat → AL) : Nat → AL := if kdpHas (f goal) (sgk mid) then (fun i => if i = goal then addC (f goal) (f mid) else f i) else f
noncomputable def leadsMid (f : Nat → AL) (mid : Nat) : Nat → AL := (List.range 6).foldl (fun f goal => leadStep mid goal f) f
noncomputable def leadsOf (f : Nat → AL) : Nat → AL := (List.range 6).foldl leadsMid f
inductive OutG (w : World) (led : Led) (f : Nat → AL) (new : Led) (v : Value) : Prop
  | mk (l) (ol) (inner) (_ : new = (l, ol) :: inner) (_ : v = .ref l) (_ : (l == sysModules) = false) (_ : Fam w (fun _ => True) ol (inner ++ led) f) : OutG w led f new v
theorem sg1_chk {k : Nat} (hk : k < 6) : sg1 (chk k) = sgk k := by
  match k, hk with
  | 0, _ | 1, _ | 2, _ | 3, _ | 4, _ | 5, _ => decide +kernel
theorem row_chk : (Str.ofString "aAbBdD").cps.toList = (List.range 6).map chk := by decide +kernel
theorem dict_any {prog : Program} {w : World} {KK : Type} [DecidableEq KK] {knd : KeyKind prog w KK} {A : Around} {E : Value → Shared → Prop} {s : Shared} {h₀ : Heap} {L src : Addr} {osrc : Obj} {m : Str → Option Value} {news : Led} {kvs : List (KK × Value)}
    {Q : Value → Shared → Prop} (F : Fr h₀ L s.heap m) (N : News h₀ L s.heap news) (hbig : h₀.NoLimit) (hp : (src, osrc) ∈ news) (lo : (src == sysModules) = false) (hd : osrc.IsDictOf knd kvs) (hsz : kvs.length ≤ sizeLine)
    (k : ∀ d h' o, Fr h₀ L h' m → News h₀ L h' ((d, o) :: news) → (∀ p ∈ news, p.1 < d) → (d == sysModules) = false → o.IsDictOf knd kvs → Q (.ref d) { s with heap := h' }) :
    wpAny (model prog w) A (call (.type "dict") [.ref src]) Q E s := by
  refine kt_call_dict lo (kda_dict N hp hd) hsz fun h' hm hs => ?_
  obtain ⟨o', ho', hd'⟩ := Heap.dictOf_iff.mp hm
  have N1 := News.push F N { cls := .type "dict", data := .dict #[] }
  exact k _ h' o' ((F.push _).change hs (N1 _ (.head _)).2.1 (N1.fresh (.head _))) (N1.setHead N.apart hs ho') (fun p hp => Heap.lt_size (N p hp).1) (F.notModules (modules_low hbig)) hd'
/-- between two turns of _law_leads' outer loop -/
inductive JMid (w : World) (led : Led) (goal : Nat → AL) (news₀ : Led) (m₀ : Str → Option Value) (rest : List Nat) (m : Str → Option Value) (nw : Led) : Prop
  | mk (q1 q2 q3 : Str → Option Value) (l : Addr) (ol0 ol : Obj) (r0 inner : Led) (f : Nat → AL) (is : List Nat) (_ : news₀ = (l, ol0) :: r0) (_ : m = (fun y => if y = Str.ofString "both" then q1 y else if y = Str.ofString "goal" then q2 y else if y = Str.ofString "middle" then q3 y else m₀ y)) (_ : nw = (l, ol) :: inner) (_ : Fam w (fun _ => True) ol inner f) (_ : (∀ p ∈ led, p ∈ inner)) (_ : (∀ p ∈ inner, @Ne Nat p.1 l)) (_ : (∀ p ∈ inner, p ∈ led ∨ p.2.cls = .type "dict")) (_ : rest = is.map chk) (_ : (∀ k ∈ is, k < 6)) (_ : is.foldl leadsMid f = goal) (_ : ∀ i, i < 6 → K6 (f i)) : JMid w led goal news₀ m₀ rest m nw
/-- between two turns of its inner loop -/
inductive JGoal (w : World) (led pre : Led) (l : Addr) (mid : Nat) (goal : Nat → AL) (z1 : Led) (m₀ : Str → Option Value) (rest : List Nat) (m : Str → Option Value) (nw : Led) : Prop
  | mk (q1 q2 : Str → Option Value) (ol : Obj) (inner : Led) (f : Nat → AL) (is : List Nat) (_ : m = (fun y => if y = Str.ofString "both" then q1 y else if y = Str.ofString "goal" then q2 y else m₀ y)) (_ : nw = pre ++ (l, ol) :: inner) (_ : Fam w (fun _ => True) ol inner f) (_ : (∀ p ∈ led, p ∈ inner)) (_ : (∀ p ∈ inner, @Ne Nat p.1 l)) (_ : (∀ p ∈ inner, p ∈ led ∨ p.2.cls = .type "dict")) (_ : rest = is.map chk) (_ : (∀ k ∈ is, k < 6)) (_ : is.foldl (fun f g => leadStep mid g f) f = goal) (_ : ∀ i, i < 6 → K6 (f i)) : JGoal w led pre l mid goal z1 m₀ rest m nw
theorem JGoal.on {P : (Str → Option Value) → Led → Prop} {w : World} {led : Led} {pre : Led} {l : Addr} {mid : Nat} {goal : Nat → AL} {z1 : Led} {m₀ : Str → Option Value} {rest : List Nat} {m : Str → Option Value} {nw : Led} (h : JGoal w led pre l mid goal z1 m₀ rest m nw)
    (kk : ∀ (q1 : Str → Option Value) (q2 : Str → Option Value) (ol : Obj) (inner : Led) (f : Nat → AL) (is : List Nat), (Fam w (fun _ => True) ol inner f) → ((∀ p ∈ led, p ∈ inner)) → ((∀ p ∈ inner, @Ne Nat p.1 l)) → ((∀ p ∈ inner, p ∈ led ∨ p.2.cls = .type "dict")) → (rest = is.map chk) → ((∀ k ∈ is, k < 6)) → (is.foldl (fun f g => leadStep mid g f) f = goal) → (∀ i, i < 6 → K6 (f i)) → P (fun y => if y = Str.ofString "both" then q1 y else if y = Str.ofString "goal" then q2 y else m₀ y) (pre ++ (l, ol) :: inner)) : P m nw := by
  obtain ⟨q1, q2, ol, inner, f, is, rfl, rfl, h1, h2, h3, h4, h5, h6, h7, h8⟩ := h
  exact kk q1 q2 ol inner f is h1 h2 h3 h4 h5 h6 h7 h8
theorem names2k {m₀ : Str → Option Value} (M : Str → Option Value) (a b : Str) (h : ∀ y, y ≠ a → y ≠ b → M y = m₀ y) : M = (fun y => if y = a then M y else if y = b then M y else m₀ y) := by
  funext y
  by_cases h1 : y = a
  · simp [h1]
  · by_cases h2 : y = b
    · simp [h2]
    · simp [h1, h2, h y h1 h2]
theorem names3k {m₀ : Str → Option Value} (M : Str → Option Value) (a b c : Str) (h : ∀ y, y ≠ a → y ≠ b → y ≠ c → M y = m₀ y) : M = (fun y => if y = a then M y else if y = b then M y else if y = c then M y else m₀ y) := by
  funext y
  by_cases h1 : y = a
  · simp [h1]
  · by_cases h2 : y = b
    · simp [h2]
    · by_cases h3 : y = c
      · simp [h3]
      · simp [h1, h2, h3, h y h1 h2 h3]
theorem fam_split {w : World} {ol : Obj} {inner led : Led} {f : Nat → AL} (h : Fam w (fun _ => True) ol inner f) (hc : ∀ p ∈ inner, ∀ q ∈ led, q.1 = p.1 → p = q) : ∃ inner' : Led, (∀ p ∈ inner', p ∈ inner) ∧ (∀ p ∈ inner', ∀ q ∈ led, @Ne Nat q.1 p.1) ∧ Fam w (fun _ => True) ol (inner' ++ led) f := by
  classical
  obtain ⟨kvs, h1, h2, h3⟩ := h
  refine ⟨inner.filter fun p => decide (∀ q ∈ led, @Ne Nat q.1 p.1), fun p hp => (List.mem_filter.mp hp).1, fun p hp => of_decide_eq_true (List.mem_filter.mp hp).2, kvs, h1, h2, fun i hi => ?_⟩
  obtain ⟨d, od, v1, v2, v3, v4⟩ := h3 i hi
  refine ⟨d, od, v1, List.mem_append.mpr ?_, v3, trivial⟩
  by_cases hq : ∀ q ∈ led, @Ne Nat q.1 d
  · exact .inl (List.mem_filter.mpr ⟨v2, decide_eq_true hq⟩)
  · refine .inr ?_
    obtain ⟨q, hq⟩ := Classical.not_forall.mp hq
    obtain ⟨hq, hn⟩ := Classical.not_imp.mp hq
    rw [hc (d, od) v2 q hq (Classical.not_not.mp hn)]
    exact hq
theorem names3h {m₀ : Str → Option Value} (a b c : Str) : m₀ = (fun y => if y = a then m₀ y else if y = b then m₀ y else if y = c then m₀ y else m₀ y) := by
  funext y; simp
section
local macro_rules | `(tactic| walk_at "call type:dict") => `(tactic| (k_here; refine hold_in ?_))
local macro_rules | `(tactic| walk_at "exec For Name Constant cons nil") => `(tactic| (k_here; refine hold_in ?_))
local macro_rules | `(tactic| walk_at "exec For Name Constant cons cons") => `(tactic| (k_here; refine hold_in ?_))
local macro_rules | `(tactic| walk_at "exec For Name Constant") => `(tactic| (k_here; refine hold_in ?_))
local macro_rules | `(tactic| walk_at "pyIter str") => `(tactic| (k_here; refine hold_in ?_))
local macro_rules | `(tactic| walk_at "subscriptTail") => `(tactic| (k_here; (with_reducible show wpAny _ _ (subscriptTail _ _ (Value.ref _) (Value.str _ _)) _ _ _); k_dflt (refine kda_item (knd := PySem.strKind _ _) (by k_asm) (by k_mem) (by assumption) (by exact strKind_is _ _ _ _) (by assumption) ?_)))
local macro_rules | `(tactic| walk_at "call ref") => `(tactic| (k_here; refine hold_in ?_))
local macro_rules | `(tactic| walk_at "setItem ref str") => `(tactic| (k_here; refine hold_in ?_))
theorem c_leads (w : World) (news led : Led) (lc : Nat) (oc : Obj) (f : Nat → AL) (hs : ∀ p ∈ led, p ∈ news) (hl : (lc, oc) ∈ led) (hlo : (lc == sysModules) = false) (hf : Fam w (fun _ => True) oc led f) (hK : ∀ i, i < 6 → K6 (f i)) :
    Con w 88 news [.ref lc] 2 (OutG w led (leadsOf f)) := by
  refine foldP fun G hG => ?_
  obtain ⟨kv0, hd0, hlen0, hf0⟩ := hf
  refine hG ?_
  clear hG G
  walk_at "BODY"
  refine Hold.out ?_
  (rename Fr _ _ _ _ => lF); (rename News _ _ _ _ => lN); (rename Top _ _ _ _ _ _ => lT)
  refine dict_any (knd := PySem.strKind PR w) lF lN lT.nolimit hl hlo hd0 (by rw [hlen0, sizeLine_eq]; omega) ?_
  intro l h ol F N l1 lo hd
  have l1 := l1
  k_steps
  refine Hold.out ?_
  (rename Fr _ _ _ _ => lF)
  refine For_turns lF ?_ (by intro _; rfl) (by passes_own)
  k_steps
  refine Hold.out ?_
  (rename Fr _ _ _ _ => lF); (rename News _ _ _ _ => lN)
  k_dflt (refine' iter_str (JMid w led (leadsOf f)) ?F ?N ?hh ?ha ?j ?turn ?done)
  case F => exact lF
  case N => exact lN
  case hh => rfl
  case ha => decide +kernel
  case j => exact ⟨_, _, _, l, ol, ol, _, led, f, List.range 6, rfl, names3h _ _ _, rfl, ⟨kv0, hd, hlen0, hf0⟩, fun p hp => hp, fun p hp => Nat.ne_of_lt (l1 p hp), fun p hp => .inl hp, row_chk, fun k hk => List.mem_range.mp hk, rfl, hK⟩
  case turn =>
    walk_at "DROP"
    rintro c r m nw ⟨q1, q2, q3, l9, ol0, ol, r0, inner, f, is, hn, rfl, rfl, hfam, hled, hoff, hcl, hr, his, hgo, hK⟩ I t h tk oI l1 hI F N
    injection hn with e1 e2
    injection e1 with e3 e4
    subst e2 e4
    subst e3
    match is, hr with
    | mid :: is', hr =>
      injection hr with hc hr5
      subst hc
      have hmid := his mid (List.mem_cons_self ..)
      rw [sg1_chk hmid]
      have l1 := l1
      (try dsimp only)
      (try walk_at "FOLD")
      k_steps
      refine Hold.out ?_
      (rename Fr _ _ _ _ => lF)
      refine For_turns lF ?_ (by intro _; rfl) (by passes_own)
      k_steps
      refine Hold.out ?_
      (rename Fr _ _ _ _ => lF); (rename News _ _ _ _ => lN)
      have N3 : News _ _ _ ([(I, oI)] ++ (l, ol) :: inner) := lN
      clear lN
      k_dflt (refine' iter_str (news := [(I, oI)] ++ (l, ol) :: inner) (JGoal w led [(I, oI)] l mid (leadsMid f mid)) ?iF ?iN ?ihh ?iha ?ij ?iturn ?idone)
      case iF => exact lF
      case iN => exact N3
      case ihh => rfl
      case iha => decide +kernel
      case ij => exact ⟨_, _, ol, inner, f, List.range 6, names2 _ _, rfl, hfam, hled, hoff, hcl, row_chk, fun k hk => List.mem_range.mp hk, rfl, hK⟩
      case iturn =>
        clear lF N3
        intro c rr m nw hJ
        apply hJ.on
        clear hJ
        intro p1 p2 ol' inner' f' is2 hfam' hled' hoff' hcl' hr2 his2 hgo2 hK2 I2 t2 h2 tk2 oI2 l2 hI2 F2 N2
        match is2, hr2 with
        | gl :: is2', hr2 =>
          injection hr2 with hc2 hr3
          subst hc2
          have hgl := his2 gl (List.mem_cons_self ..)
          rw [sg1_chk hgl]
          refine foldP fun G hG => ?_
          obtain ⟨kv2, hdk, hlen2, hf2⟩ := hfam'
          obtain ⟨dg, og, vg1, vg2, ⟨log, kg, hdg, hfg⟩, _⟩ := hf2 gl hgl
          obtain ⟨dm, om, vm1, vm2, ⟨lom, km, hdm, hfm⟩, _⟩ := hf2 mid hmid
          refine hG ?_
          clear hG G
          have N4 : News _ _ _ ([(dg, og), (dm, om), (I2, oI2), (I, oI), (l, ol')] ++ inner') := fun p hp => N2 p (by
            simp only [List.mem_append, List.mem_cons, List.not_mem_nil, or_false] at hp ⊢
            rcases hp with (rfl | rfl | rfl | rfl | rfl) | hp <;> simp [*])
          simp only [List.cons_append, List.nil_append] at N4
          clear N2
          (try dsimp only)
          (try walk_at "FOLD")
          k_steps
          · refine Hold.out ?_
            (rename News _ _ _ _ => lN)
            refine' (c_add w _ dg dm og om (f' gl) (f' mid) ?cm1 ?cm2 ⟨log, kg, hdg, hfg⟩ ⟨lom, km, hdm, hfm⟩ ?cb1 ?cb2).use _ _ _ _ _ _ _ _ _ _ _ _ _ _ _ _ _ _ _ _ _ ?cB ?cF ?cX ?cN ?cT ?cK ?cD ?cU ?_
            case cN => exact lN
            case cm1 => k_mem
            case cm2 => k_mem
            case cb1 => have := (hK2 gl hgl).len; omega
            case cb2 => have := (hK2 mid hmid).len; omega
            case cB => k_asm
            case cF => k_asm
            case cX => k_asm
            case cT => k_asm
            case cK => exact rfl
            case cD => ktr_room
            case cU => units_room
            intro v9 new9 h9 tk9 F9 N9 off9 hD9
            refine foldP fun G hG => ?_
            obtain ⟨b, ob, zr1, zr2, hDb⟩ := hD9
            refine hG ?_
            clear hG G
            subst zr1
            subst zr2
            have htb := tot_addC (b := f' mid) (hK2 gl hgl).1
            simp only [List.cons_append, List.nil_append] at N9
            clear lN
            (try dsimp only)
            k_sweep
            k_steps
            refine Hold.out ?_
            (rename News _ _ _ _ => lN)
            refine' (c_count w _ b ob _ ?cm1 hDb).use _ _ _ _ _ _ _ _ _ _ _ _ _ _ _ _ _ _ _ _ _ ?cB ?cF ?cX ?cN ?cT ?cK ?cD ?cU ?_
            case cN => exact lN
            case cm1 => k_mem
            case cB => k_asm
            case cF => k_asm
            case cX => k_asm
            case cT => k_asm
            case cK => exact rfl
            case cD => ktr_room
            case cU => units_room
            intro v8 new8 h8 tk8 F8 N8 off8 hD8
            obtain ⟨rfl, t8, rfl⟩ := hD8
            replace N8 := newsNil N8
            clear lN off8
            (try rw [htb])
            (try dsimp only)
            k_sweep
            k_steps
            (try refine Hold.out ?_)
            (rename News _ _ _ _ => lN)
            refine' (c_count w _ dg og _ ?cm1 ⟨log, kg, hdg, hfg⟩).use _ _ _ _ _ _ _ _ _ _ _ _ _ _ _ _ _ _ _ _ _ ?cB ?cF ?cX ?cN ?cT ?cK ?cD ?cU ?_
            case cN => exact lN
            case cm1 => k_mem
            case cB => k_asm
            case cF => k_asm
            case cX => k_asm
            case cT => k_asm
            case cK => exact rfl
            case cD => ktr_room
            case cU => units_room
            intro v8 new8 h8 tk8 F8 N8 off8 hD8
            obtain ⟨rfl, t8, rfl⟩ := hD8
            replace N8 := newsNil N8
            clear lN off8
            (try rw [htb])
            (try dsimp only)
            k_sweep
            k_steps
            (try refine Hold.out ?_)
            (rename News _ _ _ _ => lN)
            refine' (c_count w _ dm om _ ?cm1 ⟨lom, km, hdm, hfm⟩).use _ _ _ _ _ _ _ _ _ _ _ _ _ _ _ _ _ _ _ _ _ ?cB ?cF ?cX ?cN ?cT ?cK ?cD ?cU ?_
            case cN => exact lN
            case cm1 => k_mem
            case cB => k_asm
            case cF => k_asm
            case cX => k_asm
            case cT => k_asm
            case cK => exact rfl
            case cD => ktr_room
            case cU => units_room
            intro v8 new8 h8 tk8 F8 N8 off8 hD8
            obtain ⟨rfl, t8, rfl⟩ := hD8
            replace N8 := newsNil N8
            clear lN off8
            (try rw [htb])
            (try dsimp only)
            k_sweep
            k_steps
            (try refine Hold.out ?_)
            · exfalso; first | exact absurd rfl (by assumption) | (trace "OMEGA"; omega)
            refine Hold.out ?_
            have hst : leadStep mid gl f' = fun i => if i = gl then addC (f' gl) (f' mid) else f' i := if_pos (by first | assumption | simp [*])
            (rename Fr _ _ _ _ => lF); (rename News _ _ _ _ => lN)
            have qI2 : @Ne Nat I2 l := Nat.ne_of_gt (l2 (l, ol) (by simp))
            have qI : @Ne Nat I l := Nat.ne_of_gt (l1 _ (List.mem_cons_self ..))
            have qb : @Ne Nat b l := (off9 (l, ol') (by simp) (b, ob) (by simp)).symm
            have qbI : @Ne Nat b I2 := (off9 (I2, oI2) (by simp) (b, ob) (by simp)).symm
            have hUA : ∀ p ∈ [(I2, oI2), (I, oI), (b, ob)] ++ inner', @Ne Nat p.1 l := fun p hp => by
              rcases List.mem_append.mp hp with hp | hp
              · simp only [List.mem_cons, List.not_mem_nil, or_false] at hp
                rcases hp with rfl | rfl | rfl
                · exact qI2
                · exact qI
                · exact qb
              · exact hoff' p hp
            have N10 : News _ _ _ ((l, ol') :: ([(I2, oI2), (I, oI), (b, ob)] ++ inner')) := fun p hp => lN p (by
              simp only [List.mem_append, List.mem_cons, List.not_mem_nil, or_false] at hp ⊢
              rcases hp with rfl | (rfl | rfl | rfl) | hp <;> simp [*])
            refine kda_set (knd := PySem.strKind PR w) lF N10 (UpdF.head hUA) hdk (strKind_is _ _ _ _) (by rw [hlen2, sizeLine_eq]; omega) (fun h10 ol10 F10 N10' hd10 => ?_)
            clear lF lN N10
            k_steps
            refine ⟨_, _, _, [(I, oI)] ++ (l, ol10) :: ((b, ob) :: inner'), rfl, F10, fun p hp => N10' p ?_, fun p hp q hq => ?_, trivial, ?_⟩
            · simp only [List.mem_append, List.mem_cons, List.not_mem_nil, or_false] at hp ⊢
              rcases hp with rfl | rfl | rfl | rfl | hp <;> simp [*]
            · rw [List.mem_singleton.mp hq]
              rcases List.mem_append.mp hp with hp | hp
              · rw [List.mem_singleton.mp hp]; exact Nat.ne_of_lt (l2 (I, oI) (by simp))
              · rcases List.mem_cons.mp hp with rfl | hp
                · exact qI2.symm
                · rcases List.mem_cons.mp hp with rfl | hp
                  · exact qbI
                  · rcases hcl' p hp with hp2 | hp2
                    · exact Nat.ne_of_lt (l2 p (by simp [hled p hp2]))
                    · exact cls_apart (NewsAt.mk N10' (by simp [hp])) (NewsAt.mk N10' (show (I2, oI2) ∈ _ by simp)) hp2 hI2 (by decide)
            · refine ⟨_, _, ol10, (b, ob) :: inner', fun i => if i = gl then addC (f' gl) (f' mid) else f' i, is2', names2k _ _ _ ?_, rfl, Fam.put hgl hd10 hlen2 hf2 (fun p hp => List.mem_cons_of_mem _ hp) (List.mem_cons_self ..) hDb trivial, fun p hp => List.mem_cons_of_mem _ (hled' p hp), ?_, ?_, hr3, fun k hk => his2 k (List.mem_cons_of_mem _ hk), by rw [List.foldl_cons, hst] at hgo2; exact hgo2, fun i hi => ?_⟩
              · intro y n1 n2
                simp [n1, n2]
              · intro p hp
                rcases List.mem_cons.mp hp with rfl | hp
                · exact qb
                · exact hoff' p hp
              · intro p hp
                rcases List.mem_cons.mp hp with rfl | hp
                · exact .inr (by obtain ⟨_, _, h9, _⟩ := hDb; exact di_cls h9)
                · exact hcl' p hp
              · show K6 (if i = gl then _ else _)
                by_cases hie : i = gl
                · rw [if_pos hie]; exact (hK2 gl hgl).addC (hK2 mid hmid).2
                · rw [if_neg hie]; exact hK2 i hi
          · have hst : leadStep mid gl f' = f' := if_neg (by first | assumption | simp [*])
            (rename Fr _ _ _ _ => lF); (rename News _ _ _ _ => lN)
            refine ⟨_, _, _, [(I, oI)] ++ (l, ol') :: inner', rfl, lF, fun p hp => lN p ?_, fun p hp q hq => ?_, trivial, ?_⟩
            · simp only [List.mem_append, List.mem_cons, List.not_mem_nil, or_false] at hp ⊢
              rcases hp with rfl | rfl | rfl | hp <;> simp [*]
            · rw [List.mem_singleton.mp hq]
              rcases List.mem_append.mp hp with hp | hp
              · rw [List.mem_singleton.mp hp]; exact Nat.ne_of_lt (l2 (I, oI) (by simp))
              · rcases List.mem_cons.mp hp with rfl | hp
                · exact Nat.ne_of_lt (l2 (l, ol) (by simp))
                · rcases hcl' p hp with hp2 | hp2
                  · exact Nat.ne_of_lt (l2 p (by simp [hled p hp2]))
                  · exact cls_apart (NewsAt.mk lN (by simp [hp])) (NewsAt.mk lN (show (I2, oI2) ∈ _ by simp)) hp2 hI2 (by decide)
            · refine ⟨_, _, ol', inner', f', is2', names2k _ _ _ ?_, rfl, ⟨kv2, hdk, hlen2, hf2⟩, hled', hoff', hcl', hr3, fun k hk => his2 k (List.mem_cons_of_mem _ hk), by rw [List.foldl_cons, hst] at hgo2; exact hgo2, hK2⟩
              intro y n1 n2
              simp [n1, n2]
      case idone =>
        clear lF N3
        intro m nw hJ
        apply hJ.on
        clear hJ
        intro p1 p2 ol' inner' f' is2 hfam' hled' hoff' hcl' hr2 his2 hgo2 hK2 h2 tk2 F2 N2
        match is2, hr2 with
        | [], _ =>
          (try dsimp only)
          (try walk_at "FOLD")
          k_steps
          refine ⟨_, _, _, (l, ol') :: inner', rfl, F2, fun p hp => N2 p ?_, fun p hp q hq => ?_, trivial, ?_⟩
          · simp only [List.mem_append, List.mem_cons, List.not_mem_nil, or_false] at hp ⊢
            exact hp
          · rw [List.mem_singleton.mp hq]
            rcases List.mem_cons.mp hp with rfl | hp
            · exact Nat.ne_of_lt (show l < I from l1 (l, _) (List.mem_cons_self ..))
            · rcases hcl' p hp with hp2 | hp2
              · exact Nat.ne_of_lt (l1 p (List.mem_cons_of_mem _ hp2))
              · exact cls_apart (NewsAt.mk N2 (by simp [hp])) (NewsAt.mk N2 (show (I, oI) ∈ _ by simp)) hp2 hI (by decide)
          · refine ⟨_, _, _, l, _, ol', _, inner', f', is', rfl, names3k _ _ _ _ ?_, rfl, hfam', hled', hoff', hcl', hr5, fun k hk => his k (List.mem_cons_of_mem _ hk), ?_, hK2⟩
            · intro y n1 n2 n3
              simp [n1, n2, n3]
            · have hgo2 : f' = leadsMid f mid := hgo2
              rw [hgo2]; exact hgo
  case done =>
    walk_at "DROP"
    rintro m nw ⟨q1, q2, q3, l9, ol0, ol, r0, inner, f, is, hn, rfl, rfl, hfam, hled, hoff, hcl, hr, his, hgo, hK⟩ h tk F N
    injection hn with e1 e2
    injection e1 with e3 e4
    subst e2 e4
    subst e3
    (try dsimp only)
    (try walk_at "FOLD")
    k_steps
    (try dsimp only)
    match is, hr with
    | [], _ =>
      rw [show f = leadsOf _ from hgo] at hfam
      obtain ⟨inner', hi1, hi2, hfam'⟩ := fam_split (led := led) hfam (fun p hp q hq e => Prod.ext e.symm (by
        have e1 := (N p (by simp [hp])).1
        have e2 := (N q (by simp [hled q hq])).1
        rw [e] at e2
        exact Option.some.inj (e1.symm.trans e2)))
      (rename EntP _ _ _ _ _ _ _ _ _ => lX)
      refine leaveP lX (fun _ _ h => h) F N (fun p hp => List.mem_cons_of_mem _ (hled p hp)) ⟨(l, ol) :: inner', fun p hp => ?_, fun p hp q hq => ?_, l, ol, inner', rfl, rfl, lo, hfam'⟩
      · rcases List.mem_cons.mp hp with rfl | hp
        · exact List.mem_cons_self ..
        · exact List.mem_cons_of_mem _ (hi1 p hp)
      · rcases List.mem_cons.mp hp with rfl | hp
        · exact (hoff q (hled q hq)).symm
        · exact (hi2 p hp q hq).symm
end

noncomputable def clD (r : List Nat) : Dat := .list (r.map fun k => .str (sgk k))
/-- the k-th letter as choice i holds it -/
noncomputable def hb (i k : Nat) : Nat := 2 * k + i / 2 ^ k % 2
noncomputable def heldOf (i : Nat) : List Nat := [hb i 0, hb i 1, hb i 2]
noncomputable def heldB (i a : Nat) : Bool := (heldOf i).any fun x => decide (sgk x = sgk a)
noncomputable def keepsB (cls : List (List Nat)) (i : Nat) : Bool := cls.all fun r => r.any (heldB i)
noncomputable def waysOf (cls : List (List Nat)) : List Nat := (List.range 8).filter (keepsB cls)
/-- between two turns of _law_ways' loop -/
inductive JWays (led : Led) (cls : List (List Nat)) (news₀ : Led) (m₀ : Str → Option Value) (n : Nat) (m : Str → Option Value) (nw : Led) : Prop
  | mk (l c1 c2 : Addr) (o0 oc1 oc2 o1 o2 : Obj) (own : Led) (vs : List Value) (cc : Nat) (x1 x2 : Option Value) (is : List Nat) (_ : news₀ = (l, o0) :: (c1, oc1) :: (c2, oc2) :: led) (_ : m = m₀) (_ : nw = (l, listOf vs.toArray cc) :: (c1, o1) :: (c2, o2) :: (own ++ led)) (_ : o1.data = .cell x1) (_ : o2.data = .cell x2) (_ : (∀ p ∈ own, p.2.cls = .type "list")) (_ : (∀ p ∈ own, ∀ q ∈ led, @Ne Nat q.1 p.1)) (_ : (∀ p ∈ own ++ led, @Ne Nat p.1 l)) (_ : (∀ p ∈ own ++ led, @Ne Nat p.1 c1)) (_ : (∀ p ∈ own ++ led, @Ne Nat p.1 c2)) (_ : DatAll own vs (is.map fun i => clD (heldOf i))) (_ : is.length ≤ n) (_ : is ++ (((List.range 8).drop n).filter (keepsB cls)) = waysOf cls) : JWays led cls news₀ m₀ n m nw
theorem hb_idx (i j : Nat) : 2 * (0 + (j : Int)) + ((i : Int).fdiv (2 ^ (0 + (j : Int)).toNat)).fmod 2 = ((hb i j : Nat) : Int) := by
  have e : (0 + (j : Int)).toNat = j := by omega
  have hp : (0 : Int) ≤ 2 ^ j := Int.pow_nonneg (by decide)
  rw [e, Int.fdiv_eq_ediv_of_nonneg _ hp, Int.fmod_eq_emod_of_nonneg _ (by decide)]
  simp [hb]
theorem hb_lt {i j : Nat} (h : j < 3) : hb i j < 6 := by
  unfold hb
  have := Nat.mod_lt (i / 2 ^ j) (by decide : 2 > 0)
  omega
theorem cl_open {led : Led} {v : Value} {r : List Nat} (h : DatIn led v (clD r)) : ∃ a zs nz, v = .ref a ∧ (a, listOf (List.toArray zs) nz) ∈ led ∧ DatAll led zs (r.map fun k => .str (sgk k)) := by
  unfold clD at h
  cases h with
  | list hm ha => exact ⟨_, _, _, rfl, hm, ha⟩
theorem txt_get {led : Led} {zs : List Value} {r : List Nat} {j : Nat} {v : Value} (h : DatAll led zs (r.map fun k => .str (sgk k))) (hj : j < r.length) (e : zs[j]? = some v) : ∃ u, v = .str (sgk r[j]) u := by
  obtain ⟨v', hv, hD⟩ := h.get (k := j) (by simpa using hj)
  obtain rfl : v' = v := Option.some.inj (hv.symm.trans e)
  rw [List.getElem_map] at hD
  obtain ⟨t9, rfl⟩ := dat_str hD
  exact ⟨_, rfl⟩
theorem heldB_iff {i a : Nat} : (Dat.str (sgk a)) ∈ ((List.range 3).map fun k => Dat.str (sgk (hb i k))) ↔ heldB i a = true := by
  have e : ((List.range 3).map fun k => Dat.str (sgk (hb i k))) = (heldOf i).map fun x => Dat.str (sgk x) := rfl
  rw [e, heldB, List.any_eq_true, List.mem_map]
  constructor
  · rintro ⟨x, hx, e⟩
    injection e with e
    exact ⟨x, hx, decide_eq_true e⟩
  · rintro ⟨x, hx, e⟩
    exact ⟨x, hx, by rw [of_decide_eq_true e]⟩
theorem txt_ok {n : Nat} {r : List Nat} (h : ∀ k ∈ r, k < 6) : ∀ d ∈ r.map (fun k => Dat.str (sgk k)), kqdOk n d = true := fun d hd => by
  obtain ⟨k, hk, rfl⟩ := List.mem_map.mp hd
  exact okT (sgk_tx (h k hk))
theorem cl_ok {r : List Nat} (h : ∀ k ∈ r, k < 6) : kqdOk 8 (clD r) = true := List.all_eq_true.mpr (txt_ok h)
theorem heldOf_lt (i : Nat) : ∀ k ∈ heldOf i, k < 6 := by
  intro k hk
  simp only [heldOf, List.mem_cons, List.not_mem_nil, or_false] at hk
  rcases hk with rfl | rfl | rfl <;> exact hb_lt (by decide)
theorem held_ok {i : Nat} : ∀ d ∈ (List.range 3).map (fun k => Dat.str (sgk (hb i k))), kqdOk 8 d = true := fun d hd => by
  obtain ⟨k, hk, rfl⟩ := List.mem_map.mp hd
  exact okT (sgk_tx (hb_lt (List.mem_range.mp hk)))
theorem any_nil {r : List Nat} {i : Nat} : ((r.filter (heldB i)).map fun k => Dat.str (sgk k)) = [] ↔ (!r.any (heldB i)) = true := by
  rw [List.map_eq_nil_iff, List.filter_eq_nil_iff, Bool.not_eq_true', List.any_eq_false]
theorem keeps_nil {cls : List (List Nat)} {i : Nat} : ((cls.filter fun r => !r.any (heldB i)).map clD) = [] ↔ keepsB cls i = true := by
  rw [List.map_eq_nil_iff, List.filter_eq_nil_iff, keepsB, List.all_eq_true]
  simp
theorem off1_mem {D : Addr} : ∀ {l : Led}, LCg.Off1 D l → ∀ p ∈ l, @Ne Nat p.1 D
  | [], _, _, h => nomatch h
  | q :: l, x, p, h => by
    rcases List.mem_cons.mp h with rfl | h
    · exact x.1
    · exact off1_mem x.2 p h
theorem ways_drop {i : Nat} (h : i < 8) : (List.range 8).drop i = i :: (List.range 8).drop (i + 1) := by
  rw [List.drop_eq_getElem_cons (by simpa using h)]
  simp
theorem ways_end {h₀ h' : Heap} {L I l c1 c2 : Addr} {oI ol o1 o2 : Obj} {s₁ : Shared} {m' : Str → Option Value} {own own' led : Led} {tk : Nat} {e1 e2 e3 e4 : Addr × Obj} {rest : (Str → Option Value) → Led → Prop}
    (F : Fr h₀ L h' m') (N : News h₀ L h' (e1 :: e2 :: e3 :: e4 :: (I, oI) :: (l, ol) :: (c1, o1) :: (c2, o2) :: (own ++ led))) (hown : ∀ p ∈ own', p ∈ e3 :: own) (hI : oI.cls = .type "range_iterator") (lI : l < I ∧ c1 < I ∧ c2 < I ∧ AllLt I led)
    (hcl : ∀ p ∈ own', p.2.cls = .type "list") (J : rest m' ((l, ol) :: (c1, o1) :: (c2, o2) :: (own' ++ led))) : UnrEndW h₀ L s₁ [(I, oI)] rest { s₁ with heap := h', toks := tk } := by
  have hall : ∀ p ∈ own' ++ led, p ∈ e1 :: e2 :: e3 :: e4 :: (I, oI) :: (l, ol) :: (c1, o1) :: (c2, o2) :: (own ++ led) := fun p hp => by
    rcases List.mem_append.mp hp with hp | hp
    · rcases List.mem_cons.mp (hown p hp) with rfl | hp <;> simp [*]
    · simp [hp]
  refine ⟨h', tk, m', _, rfl, F, fun p hp => N p ?_, fun p hp q hq e => ?_, J⟩
  · simp only [List.cons_append, List.nil_append] at hp
    rcases List.mem_cons.mp hp with rfl | hp
    · simp
    · rcases List.mem_cons.mp hp with rfl | hp
      · simp
      · rcases List.mem_cons.mp hp with rfl | hp
        · simp
        · rcases List.mem_cons.mp hp with rfl | hp
          · simp
          · exact hall p hp
  · rw [List.mem_singleton.mp hq] at e
    rcases List.mem_cons.mp hp with rfl | hp
    · exact Nat.ne_of_lt lI.1 e
    · rcases List.mem_cons.mp hp with rfl | hp
      · exact Nat.ne_of_lt lI.2.1 e
      · rcases List.mem_cons.mp hp with rfl | hp
        · exact Nat.ne_of_lt lI.2.2.1 e
        · rcases List.mem_append.mp hp with hp' | hp'
          · have e1 := (N p (hall p hp)).1
            have e2 := (N (I, oI) (by simp)).1
            rw [show p.1 = I from e] at e1
            have e3 := hcl p hp'
            rw [Option.some.inj (e1.symm.trans e2), hI] at e3
            injection e3 with h9
            exact absurd h9 (by decide)
          · exact Nat.ne_of_lt (ktn_ltOf lI.2.2.2 p hp') e
theorem sgk_at {prog : Program} {w : World} {A : Around} {E : Value → Shared → Prop} {s : Shared} {value slice : PySem.Expr} {t u : Tok} {i : Int} {Q : Value → Shared → Prop} {k : Nat} (hi : i = (k : Int)) (hk : k < 6) (h : ∀ u, Q (.str (sgk k) u) { s with toks := s.toks + 1 })
    (hs : subscripted slice false (.str (Str.ofString "aAbBdD") t) (.int i u) = operate [.str (Str.ofString "aAbBdD") t, .int i u] (getItem (.str (Str.ofString "aAbBdD") t) (.int i u)) := by with_unfolding_all rfl)
    (ht : ∀ r, letTemporaryGo value (.str (Str.ofString "aAbBdD") t) r = pure () := by intro _; with_unfolding_all rfl) :
    wpAny (model prog w) A (subscriptTail value slice (.str (Str.ofString "aAbBdD") t) (.int i u)) Q E s := by
  subst hi
  exact KXi.item (n := 6) rfl (by omega) (by omega) (by decide) (fun _ => h _) hs ht
section
local macro_rules | `(tactic| walk_at "exec For Name Call cons nil") => `(tactic| (k_here; refine hold_in ?_))
local macro_rules | `(tactic| walk_at "exec For Name Call") => `(tactic| (k_here; refine hold_in ?_))
local macro_rules | `(tactic| walk_at "eval ListComp") => `(tactic| (k_here; (with_reducible show wpAny _ _ (eval (Expr.ListComp _ [⟨_, _, [_], _⟩] _ _) _) _ _ _); k_dflt (refine LCt.ListComp_T (F₀ := by k_asm) (by with_unfolding_all rfl) (by decide) (by rfl) (by decide) (by rfl) ?_)))
local macro_rules | `(tactic| walk_at "eval ListComp") => `(tactic| (k_here; (with_reducible show wpAny _ _ (eval (Expr.ListComp _ [⟨_, _, [], _⟩] _ _) _) _ _ _); k_dflt (refine LCg.ListComp_U (F₀ := by k_asm) (by with_unfolding_all rfl) (by decide) (by rfl) (by decide) (by rfl) ?_)))
local macro_rules | `(tactic| walk_at "CompSrc") => `(tactic| (k_here; k_dflt (refine LCg.CompSrc.range (n := 3) (by rfl) (by k_asm) (by k_asm) (by assumption) (by decide) (by decide) (by exact Nat.le_of_ble_eq_true rfl) ?_; intro g')))
local macro_rules | `(tactic| walk_at "CompSrcT") => `(tactic| (k_here; k_dflt (refine LCt.CompSrcT.ledger (by exact rfl) (by k_asm) (by (rename News _ _ _ _ => lN9); exact lN9) (by k_mem) (by first | (simp only [List.size_toArray]; exact short_line (by omega)) | size_fits | exact Nat.le_of_ble_eq_true rfl) ?_); intro g'; skip))
local macro_rules | `(tactic| walk_at "CompRest") => `(tactic| refine hold_in ?_)
local macro_rules | `(tactic| walk_at "CompRestT") => `(tactic| refine hold_in ?_)
local macro_rules | `(tactic| walk_at "CompEnd") => `(tactic| refine hold_in ?_)
local macro_rules | `(tactic| walk_at "CompEnd") => `(tactic| (k_dflt (refine LCg.CompEnd.intro (by (rename Fr _ _ _ _ => lF9); exact lF9) (by (rename News _ _ _ _ => lN9); exact lN9) _ (fun _ h => h) (by first | assumption | (simp only [LCg.Off3, and_true]; done) | (simp only [LCg.Off3, and_true]; assumption)) (by first | exact True.intro | exact Or.inr ⟨_, by k_mem, rfl, _, rfl⟩ | exact Or.inl (by assumption)) ?_)))
local macro_rules | `(tactic| walk_at "subscriptTail") => `(tactic| (k_here; (with_reducible show wpAny _ _ (subscriptTail _ _ (Value.str _ _) (Value.int _ _)) _ _ _); refine hold_in ?_))
local macro_rules | `(tactic| walk_at "call builtin:list.append") => `(tactic| (k_here; (try dsimp only); (show wpAny _ _ (call (Value.builtin "list.append") [Value.ref _, _]) _ _ _); k_dflt (refine append_K (by k_asm) (by k_asm) (by k_upd) ?_ (by (simp only [List.size_toArray]; exact short_line (by assumption)))); intro h' F' N'; (try k_sweep)))
local macro_rules | `(tactic| walk_at "pyIter ref") => `(tactic| (k_here; refine hold_in ?_))
local macro_rules | `(tactic| walk_at "compareOp In str ref") => `(tactic| (k_here; refine hold_in ?_))
local macro_rules | `(tactic| walk_at "compareOp In") => `(tactic| (k_here; refine hold_in ?_))
local macro_rules | `(tactic| walk_at "compareOp Eq ref ref") => `(tactic| (k_here; refine hold_in ?_))
theorem c_ways (w : World) (news led : Led) (lk c : Nat) (kvs : List Value) (cls : List (List Nat)) (hs : ∀ p ∈ led, p ∈ news) (hl : (lk, listOf kvs.toArray c) ∈ led) (hr : DatAll led kvs (cls.map clD))
    (hok : ∀ r ∈ cls, r.length ≤ 2 ∧ ∀ k ∈ r, k < 6) (hn : cls.length ≤ 6) : Con w 93 news [.ref lk] 2 (fun new v => DatIn new v (.list ((waysOf cls).map fun i => clD (heldOf i)))) := by
  have hkl : kvs.length ≤ 64 := by have := hr.length; simp only [List.length_map] at this; omega
  walk_at "BODYC"
  refine Hold.out ?_
  (rename Fr _ _ _ _ => lF)
  refine For_turns lF ?_ (by intro _; rfl) (by passes_own)
  k_steps
  refine Hold.out ?_
  rename IsRange _ _ _ _ _ _ _ _ => lR
  (rename Fr _ _ _ _ => lF); (rename News _ _ _ _ => lN)
  k_dflt (refine' iter_range (n := 8) (JWays led cls) ?F ?N ?hh ?hr ?hb ?hz ?j ?turn ?done)
  case F => exact lF
  case N => exact lN
  case hh => rfl
  case hr => exact lR
  case hb => rfl
  case hz => omega
  case j => exact ⟨_, _, _, _, _, _, _, _, [], [], _, _, _, [], rfl, rfl, rfl, by assumption, by assumption, by simp, by simp, fun p hp => Nat.ne_of_lt (ktn_ltOf (And.right (And.right (‹_ ∧ _ ∧ AllLt _ led›))) p hp), fun p hp => Nat.ne_of_lt (Nat.lt_of_lt_of_le (‹∀ p ∈ led, p.1 < _› p hp) (by omega)), fun p hp => Nat.ne_of_lt (Nat.lt_of_lt_of_le (‹∀ p ∈ led, p.1 < _› p hp) (by omega)), .nil, Nat.zero_le _, rfl⟩
  case turn =>
    walk_at "DROP"
    rintro i m nw hi ⟨l, c1, c2, o0, oc1, oc2, o1, o2, own, vs, cc, x1, x2, is, hn, rfl, rfl, ho1, ho2, hcl, hapart, hl1, hc1, hc2, hvs, hlen, hgo⟩ I t h tk oI l1 hI F N
    injection hn with e1 e2
    injection e1 with e3 e4
    injection e2 with e5 e6
    injection e5 with e7 e8
    injection e6 with e9 e10
    injection e9 with e11 e12
    clear e10
    subst e4 e8 e12
    obtain rfl := e3.symm
    obtain rfl := e7.symm
    obtain rfl := e11.symm
    k_lt l1
    have lI := l1
    have hvl : vs.length ≤ 64 := by have := hvs.length; simp only [List.length_map] at this; omega
    have dk1 : @Ne Nat lk _ := hl1 _ (List.mem_append_right _ hl)
    have dk2 : @Ne Nat lk _ := hc1 _ (List.mem_append_right _ hl)
    have dk3 : @Ne Nat lk _ := hc2 _ (List.mem_append_right _ hl)
    have N2 : News _ _ _ ((lk, listOf kvs.toArray c) :: (I, oI) :: _) := fun p hp => by
      rcases List.mem_cons.mp hp with rfl | hp
      · exact N _ (by simp [hl])
      · exact N p hp
    clear N
    (try dsimp only)
    (try walk_at "FOLD")
    k_steps
    refine Hold.out ?_
    refine compRest_each (fun j ys nw => nw = _ ∧ ∀ q, DatAll q ys ((List.range j).map fun k => .str (sgk (hb i k)))) (fun j ys nw v I' oI' C' oC' D' m' h' tk' E' hj hK hv hC hx F' N' off ne => ?_) ⟨rfl, fun _ => .nil⟩ (fun ys nw hK => ?_)
    · obtain ⟨t9, rfl⟩ := hv
      obtain ⟨rfl, hys⟩ := hK
      (simp only [LCg.Off3, and_true] at off)
      k_steps
      refine Hold.out ?_
      refine sgk_at (k := hb i j) (hb_idx i j) (hb_lt hj) (fun u => ?_)
      k_steps
      rw [List.range_succ, List.map_append]
      exact (hys _).append (.cons (.str _ _) .nil)
    · obtain ⟨rfl, hys⟩ := hK
      clear F N2
      k_steps
      refine Hold.out ?_
      refine compRestT_each (fun j wv nw => nw = _ ∧ DatAll led wv (((cls.take j).filter fun r => !r.any (heldB i)).map clD)) (fun j wv nw v I' oI' C' oC' D' m' h' tk' E' hj hK hv hC hx F' N' off ne => ?_) ⟨rfl, .nil⟩ (fun wv nw hK => ?_)
      · obtain ⟨rfl, hys2⟩ := hK
        have hj' : j < cls.length := by have := hr.length; simp only [List.length_map, List.size_toArray] at this hj; omega
        have hD := dat_map (v := v) hr (by simpa using hv) hj'
        obtain ⟨hrl, hrk⟩ := hok cls[j] (List.getElem_mem hj')
        have htk : cls.take (j + 1) = cls.take j ++ [cls[j]] := (List.take_append_getElem hj').symm
        generalize cls[j] = r at *
        refine foldP fun G hG => ?_
        obtain ⟨a, zs, nz, zr1, ma, hzs⟩ := cl_open hD
        refine hG ?_
        clear hG G
        subst zr1
        have hzl : zs.length ≤ 64 := by have := hzs.length; simp only [List.length_map] at this; omega
        have N3 : News _ _ _ ((a, listOf zs.toArray nz) :: _) := fun p hp => by
          rcases List.mem_cons.mp hp with rfl | hp
          · exact N' _ (by simp [ma])
          · exact N' p hp
        clear N'
        (simp only [LCg.Off3, and_true] at off)
        k_steps
        refine Hold.out ?_
        refine compRestT_each (fun j2 zs2 nw => nw = _ ∧ ∀ q, DatAll q zs2 (((r.take j2).filter (heldB i)).map fun k => .str (sgk k))) (fun j2 zs2 nw2 v2 I2 oI2 C2 oC2 D2 m2 h2 tk2 E2 hj2 hK2 hv2 hC2 hx2 F2 N4 off2 ne2 => ?_) ⟨rfl, fun _ => .nil⟩ (fun zs2 nw2 hK2 => ?_)
        · obtain ⟨rfl, hz2⟩ := hK2
          have hj3 : j2 < r.length := by have := hzs.length; simp only [List.length_map, List.size_toArray] at this hj2; omega
          obtain ⟨u2, rfl⟩ := txt_get hzs hj3 (by simpa using hv2)
          have htk2 : r.take (j2 + 1) = r.take j2 ++ [r[j2]] := (List.take_append_getElem hj3).symm
          have hk2 := hrk _ (List.getElem_mem hj3)
          generalize r[j2] = k2 at *
          (simp only [LCg.Off3, and_true] at off2)
          k_steps
          refine Hold.out ?_
          (rename News _ _ _ _ => lN)
          have hin := heldB_iff (i := i) (a := k2)
          cases hbb : heldB i k2 with
          | true =>
            refine inL (r := true) (xs := ys) lN (by k_mem) (hys _) (.str _ _) held_ok (okT (sgk_tx hk2)) (by units_room) (hin.trans (by rw [hbb])) ?_
            clear hin
            k_steps
            rw [htk2, List.filter_append, List.map_append]
            refine (hz2 _).append ?_
            rw [List.filter_cons_of_pos hbb]
            exact .cons (.str _ _) .nil
          | false =>
            refine inL (r := false) (xs := ys) lN (by k_mem) (hys _) (.str _ _) held_ok (okT (sgk_tx hk2)) (by units_room) (hin.trans (by rw [hbb])) ?_
            clear hin
            k_steps
            rw [htk2, List.filter_append, List.map_append, List.filter_cons_of_neg (by rw [hbb]; exact Bool.false_ne_true)]
            simpa using hz2 _
        · obtain ⟨rfl, hz2⟩ := hK2
          have hzn : zs.toArray.size = r.length := by have := hzs.length; simpa using this
          rw [hzn, List.take_length] at hz2
          k_steps
          refine Hold.out ?_
          (rename News _ _ _ _ => lN)
          have hiff := any_nil (r := r) (i := i)
          cases hbb : r.any (heldB i) with
          | true =>
            refine eqL (r := false) (xs := zs2) (ys := []) lN (by k_mem) (hz2 _) (by k_mem) .nil (txt_ok fun k hk => hrk k (List.mem_filter.mp hk).1) (fun _ hd => nomatch hd) (by units_room) (hiff.trans (by rw [hbb]; decide)) ?_
            clear hiff
            k_steps
            refine Hold.out ?_
            (rename News _ _ _ _ => lN); (rename Fr _ _ _ _ => lF)
            k_dflt (refine' LCg.CompEnd.intro lF lN _ (fun _ h => .tail _ (.tail _ (.tail _ h))) ?off ?src ⟨rfl, ?K⟩)
            case off => simp only [LCg.Off3, and_true]; exact off
            case src => exact Or.inr ⟨_, by k_mem, rfl, _, rfl⟩
            case K =>
              rw [htk, List.filter_append, List.map_append, List.filter_cons_of_neg (by rw [hbb]; decide)]
              simpa using hys2
          | false =>
            refine eqL (r := true) (xs := zs2) (ys := []) lN (by k_mem) (hz2 _) (by k_mem) .nil (txt_ok fun k hk => hrk k (List.mem_filter.mp hk).1) (fun _ hd => nomatch hd) (by units_room) (hiff.trans (by rw [hbb]; decide)) ?_
            clear hiff
            k_steps
            refine Hold.out ?_
            (rename News _ _ _ _ => lN); (rename Fr _ _ _ _ => lF)
            k_dflt (refine' LCg.CompEnd.intro lF lN _ (fun _ h => .tail _ (.tail _ (.tail _ h))) ?off ?src ⟨rfl, ?K⟩)
            case off => simp only [LCg.Off3, and_true]; exact off
            case src => exact Or.inr ⟨_, by k_mem, rfl, _, rfl⟩
            case K =>
              rw [htk, List.filter_append, List.map_append]
              refine hys2.append ?_
              rw [List.filter_cons_of_pos (by rw [hbb]; rfl)]
              exact .cons hD .nil
      · obtain ⟨rfl, hys2⟩ := hK
        have hkn : kvs.toArray.size = cls.length := by have := hr.length; simpa using this
        rw [hkn, List.take_length] at hys2
        k_steps
        refine Hold.out ?_
        (rename News _ _ _ _ => lN)
        have hiff := keeps_nil (cls := cls) (i := i)
        have hok2 : ∀ d ∈ (cls.filter fun r => !r.any (heldB i)).map clD, kqdOk 8 d = true := fun d hd => by
          obtain ⟨r, hr, rfl⟩ := List.mem_map.mp hd
          exact cl_ok (hok r (List.mem_filter.mp hr).1).2
        have hys3 := fun (q : Led) (hq : ∀ p ∈ led, p ∈ q) => DatAll.mono hq hys2
        cases hbb : keepsB cls i with
        | true =>
          refine eqL (r := true) (xs := wv) (ys := []) lN (by k_mem) (hys3 _ fun p hp => by simp [hp]) (by k_mem) .nil hok2 (fun _ hd => nomatch hd) (by units_room) (hiff.trans (by rw [hbb])) ?_
          clear hiff
          k_steps
          (rename News _ _ _ _ => lN); (rename Fr _ _ _ _ => lF)
          simp only [List.push_toArray] at lN
          have hoff := ‹_ ∧ _ ∧ _ ∧ _ ∧ _ ∧ LCg.Off1 _ (own ++ led)›
          have hoffm := off1_mem hoff.2.2.2.2.2
          refine ways_end (own := own) (led := led) (own' := ((_, LCg.lst ys) : Addr × Obj) :: own) (ol := listOf (List.toArray (vs ++ [Value.ref _])) (cc + 1)) lF lN (fun p hp => hp) hI lI (fun p hp => ?_) ⟨trivial, ⟨l, _, _, _, _, _, _, _, ((_, LCg.lst ys) : Addr × Obj) :: own, vs ++ [Value.ref _], cc + 1, _, _, is ++ [i], rfl, rfl, rfl, by assumption, by assumption, ?_, ?_, ?_, ?_, ?_, ?_, ?_, ?_⟩⟩
          · rcases List.mem_cons.mp hp with rfl | hp
            · rfl
            · exact hcl p hp
          · intro p hp
            rcases List.mem_cons.mp hp with rfl | hp
            · rfl
            · exact hcl p hp
          · intro p hp q hq
            rcases List.mem_cons.mp hp with rfl | hp
            · exact hoffm q (List.mem_append_right _ hq)
            · exact hapart p hp q hq
          · intro p hp
            rcases List.mem_cons.mp hp with rfl | hp
            · exact hoff.2.2.1.symm
            · exact hl1 p hp
          · intro p hp
            rcases List.mem_cons.mp hp with rfl | hp
            · exact hoff.2.2.2.1.symm
            · exact hc1 p hp
          · intro p hp
            rcases List.mem_cons.mp hp with rfl | hp
            · exact hoff.2.2.2.2.1.symm
            · exact hc2 p hp
          · rw [List.map_append]
            exact (DatAll.mono (fun p hp => List.mem_cons_of_mem _ hp) hvs).append (.cons (.list (List.mem_cons_self ..) (hys _)) .nil)
          · simp only [List.length_append, List.length_cons, List.length_nil]; omega
          · rw [ways_drop hi, List.filter_cons_of_pos hbb] at hgo
            rw [List.append_assoc]; exact hgo
        | false =>
          refine eqL (r := false) (xs := wv) (ys := []) lN (by k_mem) (hys3 _ fun p hp => by simp [hp]) (by k_mem) .nil hok2 (fun _ hd => nomatch hd) (by units_room) (hiff.trans (by rw [hbb])) ?_
          clear hiff
          k_steps
          (rename News _ _ _ _ => lN); (rename Fr _ _ _ _ => lF)
          refine ways_end (own' := own) (ol := listOf vs.toArray cc) lF lN (fun p hp => List.mem_cons_of_mem _ hp) hI lI hcl ⟨trivial, ⟨l, _, _, _, _, _, _, _, own, vs, cc, _, _, is, rfl, rfl, rfl, by assumption, by assumption, hcl, hapart, hl1, hc1, hc2, hvs, by omega, ?_⟩⟩
          rw [ways_drop hi, List.filter_cons_of_neg (by rw [hbb]; exact Bool.false_ne_true)] at hgo
          exact hgo
  case done =>
    walk_at "DROP"
    rintro m nw ⟨l, c1, c2, o0, oc1, oc2, o1, o2, own, vs, cc, x1, x2, is, hn, rfl, rfl, ho1, ho2, hcl, hapart, hl1, hc1, hc2, hvs, hlen, hgo⟩ h tk F N
    injection hn with e1 e2
    injection e1 with e3 e4
    injection e2 with e5 e6
    injection e5 with e7 e8
    injection e6 with e9 e10
    injection e9 with e11 e12
    clear e10
    subst e4 e8 e12
    obtain rfl := e3.symm
    obtain rfl := e7.symm
    obtain rfl := e11.symm
    (try dsimp only)
    (try walk_at "FOLD")
    k_steps
    have hgo : is = waysOf cls := by
      have e : (List.range 8).drop 8 = [] := rfl
      rw [e] at hgo
      simpa using hgo
    subst hgo
    refine ⟨(l, listOf vs.toArray cc) :: own, fun p hp => ?_, fun p hp q hq => ?_, DatIn.list (List.mem_cons_self ..) (DatAll.mono (fun p hp => List.mem_cons_of_mem _ hp) hvs)⟩
    · rcases List.mem_cons.mp hp with rfl | hp
      · exact List.mem_cons_self ..
      · exact .tail _ (.tail _ (.tail _ (List.mem_append_left _ hp)))
    · rcases List.mem_cons.mp hp with rfl | hp
      · exact (hl1 q (List.mem_append_right _ hq)).symm
      · exact (hapart p hp q hq).symm
end

noncomputable def badRow (ps : List Pl) : Prop := match ps with
  | [_] => True
  | [_, _, _] => True
  | [p, q] => ¬ okPair p q
  | _ => False
noncomputable def noTwo (ps : List Pl) : Prop := ps ≠ [.seven, .seven]
theorem flAll_open {v : Value} {vs : List Value} {p : Pl} {ps : List Pl} (h : FlAll (v :: vs) (p :: ps)) : FlIn v p ∧ FlAll vs ps := by
  refine ⟨fun led => ?_, fun led => ?_⟩
  · cases h led with
    | cons h1 _ => exact h1
  · cases h led with
    | cons _ h2 => exact h2
theorem flAll_two {vs : List Value} {p q : Pl} (h : FlAll vs [p, q]) : ∃ v v2, vs = [v, v2] ∧ FlIn v p ∧ FlIn v2 q := by
  obtain ⟨v, v2, rfl⟩ := list2 (h []).length
  have h1 := flAll_open h
  exact ⟨v, v2, rfl, h1.1, (flAll_open h1.2).1⟩
theorem r_row (w : World) (news : Led) (r : Addr) (o : Obj) (vs : List Value) (ps : List Pl) (n : Nat) (hok : ∀ p ∈ ps, p.Ok) (hv : FlAll vs ps) (hb : badRow ps) (h7 : noTwo ps) (ho : o = listOf vs.toArray n ∨ o = tupOb vs n) (hl : (r, o) ∈ news) : RCon w 35 news [.ref r] 1 := by
  have hlen : vs.length = ps.length := by have := (hv []).length; simpa using this
  match ps, hb with
  | [_], _ =>
    rcases ho with rfl | rfl
    · exact r_build_list w news r vs n hl (.inl hlen)
    · exact r_build_tuple w news r vs n hl (.inl hlen)
  | [_, _, _], _ =>
    rcases ho with rfl | rfl
    · exact r_build_list w news r vs n hl (.inr hlen)
    · exact r_build_tuple w news r vs n hl (.inr hlen)
  | [p, q], hb =>
    obtain ⟨v, v2, rfl, h1, h2⟩ := flAll_two hv
    have g1 := h1 []
    have g2 := h2 []
    have o1 := hok p (by simp)
    cases p <;> cases q <;> simp only [badRow, okPair, not_true_eq_false, not_false_eq_true] at hb
    · obtain rfl := dat_none g1; obtain ⟨t2, rfl⟩ := dat_int g2; exact r_07 w news r o _ n ho hl
    · exact absurd rfl h7
    · obtain ⟨t1, rfl⟩ := dat_int g1; obtain ⟨t2, rfl⟩ := dat_str g2; exact r_7s w news r o _ _ _ n ho hl
    · obtain ⟨t1, rfl⟩ := dat_str g1; obtain ⟨t2, rfl⟩ := dat_int g2; exact r_s7 w news r o _ _ _ n o1 ho hl
theorem c_row (w : World) (news : Led) (r : Addr) (o : Obj) (vs : List Value) (p q : Pl) (n : Nat) (hok : ∀ x ∈ [p, q], x.Ok) (hv : FlAll vs [p, q]) (hb : okPair p q) (ho : o = listOf vs.toArray n ∨ o = tupOb vs n) (hl : (r, o) ∈ news) : Con w 35 news [.ref r] 1 (fun new v => DatIn new v (dueOf [p, q])) := by
  refine foldP fun G hG => ?_
  obtain ⟨v, v2, zr1, h1, h2⟩ := flAll_two hv
  refine hG ?_
  clear hG G
  subst zr1
  exact c_build w news r o v v2 p q n (hok p (by simp)) (hok q (by simp)) hb h1 h2 ho hl
theorem due_bad {ps : List Pl} (hb : badRow ps) : dueOf ps = .list [.str MSG] := by
  match ps, hb with
  | [_], _ => rfl
  | [a, b, c], _ => cases a <;> cases b <;> rfl
  | [p, q], hb => cases p <;> cases q <;> first | rfl | exact absurd trivial hb
theorem newsTail {h₀ h : Heap} {L : Addr} {new news : Led} (N : News h₀ L h (new ++ news)) : News h₀ L h news := fun p hp => N p (List.mem_append_right _ hp)
theorem flat_s {x : Str} {new : Led} {v : Value} (h : DatIn new v (.str x)) : DatIn [] v (.str x) := by cases h; exact .str _ _
theorem flat_i {x : Int} {new : Led} {v : Value} (h : DatIn new v (.int x)) : DatIn [] v (.int x) := by cases h; exact .int _ _
theorem due_flat {p q : Pl} {new : Led} {v : Value} (hb : okPair p q) (h : DatIn new v (dueOf [p, q])) : DatIn [] v (dueOf [p, q]) := by
  cases p <;> cases q <;> first | exact hb.elim | exact flat_s h | exact flat_i h
section
local macro_rules | `(tactic| walk_at "ENTERT") => `(tactic| (refine wpAny_call ?_; k_dflt (refine enterT (h := ?_); k_whole; intro g' L' h' P' F' N' B' X' T' D' fs' l1; (try dsimp only at F'); (try dsimp only); (try k_lift B'); (try walk_at "FOLD"); (try k_lt l1))))
local macro_rules | `(tactic| walk_at "BODYT") => `(tactic| (intro loose mean mg mb kt A₀ base h₀ m hp g0 d0 t0 o0 Q E B F X XB N T TB hk hdp hun hret; w_on; walk_at "ENTERT"; clear B F X N T hret; k_steps))
local macro_rules | `(tactic| walk_at "LeaveS0") => `(tactic| (k_dflt (refine leaveT (e := ?_))))
local macro_rules | `(tactic| walk_at "call ref") => `(tactic| (k_here; refine hold_in ?_))
local macro_rules | `(tactic| walk_at "call type:tuple") => `(tactic| (k_here; (with_reducible show wpAny _ _ (call (Value.type _) [Value.ref _]) _ _ _); k_dflt (refine' kde_tupleOf ?F ?N ?l ?z ?e ?_; (case F => k_asm); (case N => k_asm); (case l => kun_lst); (case e => exact rfl); (case z => (simp only [List.size_toArray]; omega))); intro D' h' F' N' l1'; (try k_lt l1')))
local macro_rules | `(tactic| walk_at "call type:list") => `(tactic| (k_here; (with_reducible show wpAny _ _ (call (Value.type _) [Value.ref _]) _ _ _); k_dflt (refine kup_listOf (by k_asm) (by k_asm) (by k_mem) (by exact rfl) ?_ (by exact short_line (by assumption))); intro D' c' h' F' N' l1'; (try k_lt l1')))
theorem c_nameR (w : World) (news : Led) (l n : Nat) (vs : List Value) (ps : List Pl) (k : Int) (t : Tok) (h01 : k = 0 ∨ k = 1) (hvl : vs.length ≤ 64) (hok : ∀ p ∈ ps, p.Ok) (hv : FlAll vs ps) (hb : badRow ps) (h7 : noTwo ps) (hl : (l, listOf vs.toArray n) ∈ news) : ConT w 59 news [.ref l, .int k t] 2 (fun new v => DatIn new v (dueOf ps)) := by
  have hs := sub_one hl
  rcases h01 with rfl | rfl
  · walk_at "BODYT"
    refine Hold.out ?_
    (rename News _ _ _ _ => lN)
    refine' (r_row w _ _ _ vs ps _ hok hv hb h7 (.inr rfl) (List.mem_cons_self ..)) _ _ _ _ _ _ _ _ _ _ _ _ _ _ _ _ _ _ _ _ _ ?cB ?cF ?cX ?cXB ?cN ?cT ?cTB ?cK ?cD ?cU ?cR
    case cN => exact lN
    case cB => k_asm
    case cF => k_asm
    case cX => assumption
    case cXB => assumption
    case cT => assumption
    case cTB => assumption
    case cK => exact rfl
    case cD => ktr_room
    case cU => units_room
    case cR =>
      intro G e t u h' tk' FG RS U
      k_steps
      rw [due_bad hb]
      walk_at "ENDMSG"
  · walk_at "BODYT"
    refine Hold.out ?_
    (rename News _ _ _ _ => lN)
    refine' (r_row w _ _ _ vs ps _ hok hv hb h7 (.inl rfl) (List.mem_cons_self ..)) _ _ _ _ _ _ _ _ _ _ _ _ _ _ _ _ _ _ _ _ _ ?cB ?cF ?cX ?cXB ?cN ?cT ?cTB ?cK ?cD ?cU ?cR
    case cN => exact lN
    case cB => k_asm
    case cF => k_asm
    case cX => assumption
    case cXB => assumption
    case cT => assumption
    case cTB => assumption
    case cK => exact rfl
    case cD => ktr_room
    case cU => units_room
    case cR =>
      intro G e t u h' tk' FG RS U
      k_steps
      rw [due_bad hb]
      walk_at "ENDMSG"
theorem c_nameG (w : World) (news : Led) (l n : Nat) (vs : List Value) (p q : Pl) (k : Int) (t : Tok) (h01 : k = 0 ∨ k = 1) (hvl : vs.length ≤ 64) (hok : ∀ x ∈ [p, q], x.Ok) (hv : FlAll vs [p, q]) (hb : okPair p q) (hl : (l, listOf vs.toArray n) ∈ news) : ConT w 59 news [.ref l, .int k t] 2 (fun new v => DatIn new v (dueOf [p, q])) := by
  have hs := sub_one hl
  rcases h01 with rfl | rfl
  · walk_at "BODYT"
    refine Hold.out ?_
    (rename News _ _ _ _ => lN)
    refine' (c_row w _ _ _ vs p q _ hok hv hb (.inr rfl) (List.mem_cons_self ..)).use _ _ _ _ _ _ _ _ _ _ _ _ _ _ _ _ _ _ _ _ _ ?cB ?cF ?cX ?cN ?cT ?cK ?cD ?cU ?_
    case cN => exact lN
    case cB => k_asm
    case cF => k_asm
    case cX => assumption
    case cT => assumption
    case cK => exact rfl
    case cD => ktr_room
    case cU => units_room
    intro v9 new9 h9 tk9 F9 N9 off9 hD9
    replace N9 := newsTail N9
    clear lN off9
    (try dsimp only)
    k_sweep
    k_steps
    exact endP_flat (due_flat hb hD9)
  · walk_at "BODYT"
    refine Hold.out ?_
    (rename News _ _ _ _ => lN)
    refine' (c_row w _ _ _ vs p q _ hok hv hb (.inl rfl) (List.mem_cons_self ..)).use _ _ _ _ _ _ _ _ _ _ _ _ _ _ _ _ _ _ _ _ _ ?cB ?cF ?cX ?cN ?cT ?cK ?cD ?cU ?_
    case cN => exact lN
    case cB => k_asm
    case cF => k_asm
    case cX => assumption
    case cT => assumption
    case cK => exact rfl
    case cD => ktr_room
    case cU => units_room
    intro v9 new9 h9 tk9 F9 N9 off9 hD9
    replace N9 := newsTail N9
    clear lN off9
    (try dsimp only)
    k_sweep
    k_steps
    exact endP_flat (due_flat hb hD9)
theorem flAll_append {vs ws : List Value} {ps qs : List Pl} (h : FlAll vs ps) (k : FlAll ws qs) : FlAll (vs ++ ws) (ps ++ qs) := fun led => by
  rw [List.map_append]
  exact (h led).append (k led)
theorem signs_nil {ps : List Pl} : (ps.filter fun p => !p.isSign).map Pl.dat = [] ↔ ps.all Pl.isSign = true := by
  rw [List.map_eq_nil_iff, List.filter_eq_nil_iff, List.all_eq_true]
  simp
theorem sign_open {p : Pl} {v : Value} (hp : p.Ok) (h : p.isSign = true) (hv : FlIn v p) : ∃ a u, p = .tx ⟨#[a]⟩ ∧ v = .str ⟨#[a]⟩ u := by
  cases p with
  | no => cases h
  | seven => cases h
  | tx a =>
    have ha : ¬ a = EM := by simpa [Pl.isSign] using h
    have hl : a.cps.size ≤ 1 := hp.len
    have hv := hv []
    simp only [Pl.dat] at hv
    cases hv with
    | str _ u =>
      obtain ⟨⟨cs⟩⟩ := a
      match cs, hl with
      | [], _ => exact absurd rfl ha
      | [c], _ => exact ⟨c, u, rfl, rfl⟩
theorem signs_shape {vs : List Value} {ps : List Pl} (hok : ∀ p ∈ ps, p.Ok) (hv : FlAll vs ps) (h : ps.all Pl.isSign = true) (hsh : badRow ps ∨ ∃ p q, ps = [p, q] ∧ okPair p q) :
    (∃ a u, ps = [.tx ⟨#[a]⟩] ∧ vs = [.str ⟨#[a]⟩ u]) ∨ (∃ a u b u2, ps = [.tx ⟨#[a]⟩, .tx ⟨#[b]⟩] ∧ vs = [.str ⟨#[a]⟩ u, .str ⟨#[b]⟩ u2]) ∨
    (∃ a u b u2 c u3, ps = [.tx ⟨#[a]⟩, .tx ⟨#[b]⟩, .tx ⟨#[c]⟩] ∧ vs = [.str ⟨#[a]⟩ u, .str ⟨#[b]⟩ u2, .str ⟨#[c]⟩ u3]) := by
  have hlen := (hv []).length
  simp only [List.length_map] at hlen
  have h3 : ps.length = 1 ∨ ps.length = 2 ∨ ps.length = 3 := by
    rcases hsh with hb | ⟨p, q, rfl, _⟩
    · match ps, hb with
      | [_], _ => exact .inl rfl
      | [_, _], _ => exact .inr (.inl rfl)
      | [_, _, _], _ => exact .inr (.inr rfl)
    · exact .inr (.inl rfl)
  rcases h3 with h3 | h3 | h3
  · obtain ⟨p, rfl⟩ := list1 h3
    obtain ⟨v, rfl⟩ := list1 hlen
    simp only [List.all_cons, List.all_nil, Bool.and_true] at h
    obtain ⟨a, u, rfl, rfl⟩ := sign_open (hok p (by simp)) h (flAll_open hv).1
    exact .inl ⟨a, u, rfl, rfl⟩
  · obtain ⟨p, q, rfl⟩ := list2 h3
    obtain ⟨v, v2, rfl⟩ := list2 hlen
    simp only [List.all_cons, List.all_nil, Bool.and_true, Bool.and_eq_true] at h
    have h2 := flAll_open (flAll_open hv).2
    obtain ⟨a, u, rfl, rfl⟩ := sign_open (hok p (by simp)) h.1 (flAll_open hv).1
    obtain ⟨b, u2, rfl, rfl⟩ := sign_open (hok q (by simp)) h.2 h2.1
    exact .inr (.inl ⟨a, u, b, u2, rfl, rfl⟩)
  · obtain ⟨p, q, r, rfl⟩ := list3 h3
    clear h3
    obtain ⟨v, v2, v3, rfl⟩ := list3 hlen
    simp only [List.all_cons, List.all_nil, Bool.and_true, Bool.and_eq_true] at h
    have h2 := flAll_open (flAll_open hv).2
    have h3 := flAll_open h2.2
    obtain ⟨a, u, rfl, rfl⟩ := sign_open (hok p (by simp)) h.1 (flAll_open hv).1
    obtain ⟨b, u2, rfl, rfl⟩ := sign_open (hok q (by simp)) h.2.1 h2.1
    obtain ⟨c, u3, rfl, rfl⟩ := sign_open (hok r (by simp)) h.2.2 h3.1
    exact .inr (.inr ⟨a, u, b, u2, c, u3, rfl, rfl⟩)
theorem str_flat {x : Str} {new : Led} {v : Value} (h : DatIn new v (.str x)) : DatIn [] v (.str x) := by cases h; exact .str _ _
theorem pl_ok {ps : List Pl} (h : ∀ p ∈ ps, p.Ok) : ∀ d ∈ ps.map Pl.dat, kqdOk 8 d = true := fun d hd => by
  obtain ⟨p, hp, rfl⟩ := List.mem_map.mp hd
  exact okP (h p hp)
theorem nsign_iff : ∀ {p : Pl}, p.dat ∈ [Dat.none, Dat.int 7, Dat.str (Str.ofString "")] ↔ (!p.isSign) = true
  | .no => ⟨fun _ => rfl, fun _ => List.mem_cons_self ..⟩
  | .seven => ⟨fun _ => rfl, fun _ => .tail _ (List.mem_cons_self ..)⟩
  | .tx a => by
    have e : (!(Pl.tx a).isSign) = decide (a = EM) := Bool.not_not _
    rw [e, decide_eq_true_eq]
    simp only [Pl.dat, List.mem_cons, List.not_mem_nil, or_false]
    exact ⟨fun h => h.elim (fun e => nomatch e) fun h => h.elim (fun e => nomatch e) fun e => Dat.str.inj e, fun e => .inr (.inr (congrArg Dat.str e))⟩
local macro_rules | `(tactic| walk_at "eval ListComp") => `(tactic| (k_here; (with_reducible show wpAny _ _ (eval (Expr.ListComp _ [⟨_, _, [_], _⟩] _ _) _) _ _ _); k_dflt (refine LCt.ListComp_T (F₀ := by k_asm) (by with_unfolding_all rfl) (by decide) (by rfl) (by decide) (by rfl) ?_)))
local macro_rules | `(tactic| walk_at "CompSrcT") => `(tactic| (k_here; k_dflt (refine LCt.CompSrcT.ledger (by exact rfl) (by k_asm) (by (rename News _ _ _ _ => lN9); exact lN9) (by k_mem) (by first | (simp only [List.size_toArray]; exact short_line (by omega)) | size_fits | exact Nat.le_of_ble_eq_true rfl) ?_); intro g'; skip))
local macro_rules | `(tactic| walk_at "CompRestT") => `(tactic| refine hold_in ?_)
local macro_rules | `(tactic| walk_at "IFF") => `(tactic| first
  | (refine iff_of_true ?_ rfl; (simp [Pl.dat, EM]; done))
  | (refine iff_of_false (b := _ = true) ?_ Bool.false_ne_true; (simp [Pl.dat, *]; done)))
local macro_rules | `(tactic| walk_at "call builtin:str.join") => `(tactic| (k_here; (try dsimp only); (show wpAny _ _ (call (Value.builtin "str.join") [Value.str _ _, Value.ref _]) _ _ _); k_dflt (refine join_listC (by kun_lst) (by first | exact .cons _ _ .nil | exact .cons _ _ (.cons _ _ .nil) | exact .cons _ _ (.cons _ _ (.cons _ _ .nil))) (by decide +kernel) (by exact Nat.le_of_ble_eq_true rfl) ?_); intro t' k'))
local macro_rules | `(tactic| walk_at "CompEnd") => `(tactic| refine hold_in ?_)
local macro_rules | `(tactic| walk_at "compareOp Eq ref ref") => `(tactic| (k_here; refine hold_in ?_))
local macro_rules | `(tactic| walk_at "IFF") => `(tactic| first | exact nsign_iff)
theorem c_name2 (w : World) (news : Led) (l n : Nat) (vs : List Value) (ps : List Pl) (t : Tok) (hvl : vs.length ≤ 64) (hok : ∀ p ∈ ps, p.Ok) (hv : FlAll vs ps) (h7 : noTwo ps) (hsh : badRow ps ∨ ∃ p q, ps = [p, q] ∧ okPair p q) (hl : (l, listOf vs.toArray n) ∈ news) : ConT w 59 news [.ref l, .int 2 t] 2 (fun new v => DatIn new v (dueOf ps)) := by
  have hs := sub_one hl
  walk_at "BODYT"
  refine Hold.out ?_
  refine compRestT_each (fun j ys nw => nw = _ ∧ FlAll ys ((ps.take j).filter fun p => !p.isSign)) (fun j ys nw v I' oI' C' oC' D' m' h' tk' E' hj hK hvj hC hx F' N' off ne => ?_) ⟨rfl, flAll_nil⟩ (fun ys nw hK => ?_)
  · obtain ⟨rfl, hys⟩ := hK
    (simp only [LCg.Off3, and_true] at off)
    have hlen := (hv []).length
    have hj' : j < ps.length := by simp only [List.length_map, List.size_toArray] at hlen hj; omega
    have hvp : FlIn v ps[j] := by
      obtain ⟨v', hv', hD⟩ := (hv []).get (k := j) (by simpa using hj')
      obtain rfl : v' = v := Option.some.inj (hv'.symm.trans (by simpa using hvj))
      rw [List.getElem_map] at hD
      exact flIn_of hD
    have htk : ps.take (j + 1) = ps.take j ++ [ps[j]] := (List.take_append_getElem hj').symm
    have hpk := hok _ (List.getElem_mem hj')
    generalize ps[j] = p at *
    k_steps
    · rename p.isSign = true => hsg0
      have hsg : (!p.isSign) = false := by rw [hsg0]; rfl
      refine Hold.out ?_
      (rename News _ _ _ _ => lN9); (rename Fr _ _ _ _ => lF9)
      k_dflt (refine' LCg.CompEnd.intro lF9 lN9 _ (fun _ h => .tail _ h) ?off ?src ?K)
      case off => simp only [LCg.Off3, and_true]; exact off
      case src => exact Or.inr ⟨_, by k_mem, rfl, _, rfl⟩
      case K =>
        refine ⟨rfl, ?_⟩
        rw [htk, List.filter_append, List.filter_cons_of_neg (p := fun p : Pl => !p.isSign) (by rw [hsg]; exact Bool.false_ne_true)]
        simpa using hys
    · rename p.isSign = false => hsg0
      have hsg : (!p.isSign) = true := by rw [hsg0]; rfl
      refine Hold.out ?_
      (rename News _ _ _ _ => lN9); (rename Fr _ _ _ _ => lF9)
      k_dflt (refine' LCg.CompEnd.intro lF9 lN9 _ (fun _ h => .tail _ h) ?off ?src ?K)
      case off => simp only [LCg.Off3, and_true]; exact off
      case src => exact Or.inr ⟨_, by k_mem, rfl, _, rfl⟩
      case K =>
        refine ⟨rfl, ?_⟩
        rw [htk, List.filter_append, List.filter_cons_of_pos (p := fun p : Pl => !p.isSign) hsg]
        exact flAll_append hys (flAll_cons hvp flAll_nil)
  · obtain ⟨rfl, hys⟩ := hK
    have hkn : vs.toArray.size = ps.length := by have := (hv []).length; simpa using this
    rw [hkn, List.take_length] at hys
    k_steps
    refine Hold.out ?_
    (rename News _ _ _ _ => lN)
    have hiff := signs_nil (ps := ps)
    cases hall : ps.all Pl.isSign with
    | true =>
      refine eqL (r := true) (xs := ys) (ys := []) lN (by k_mem) (hys _) (by k_mem) .nil (pl_ok fun p hp => hok p (List.mem_filter.mp hp).1) (fun _ hd => nomatch hd) (by units_room) (hiff.trans (by rw [hall])) ?_
      clear hiff
      rcases signs_shape hok hv hall hsh with ⟨a, u, rfl, rfl⟩ | ⟨a, u, b, u2, rfl, rfl⟩ | ⟨a, u, b, u2, c, u3, rfl, rfl⟩
      · have hb : badRow [Pl.tx ⟨#[a]⟩] := trivial
        k_steps
        refine Hold.out ?_
        (rename News _ _ _ _ => lN)
        refine' (r_build_str w _ (Txt.join (Str.ofString "") [⟨#[a]⟩]) _ (.inl rfl)) _ _ _ _ _ _ _ _ _ _ _ _ _ _ _ _ _ _ _ _ _ ?cB ?cF ?cX ?cXB ?cN ?cT ?cTB ?cK ?cD ?cU ?cR
        case cN => exact lN
        case cB => k_asm
        case cF => k_asm
        case cX => assumption
        case cXB => assumption
        case cT => assumption
        case cTB => assumption
        case cK => exact rfl
        case cD => ktr_room
        case cU => units_room
        case cR =>
          intro G e t u h' tk' FG RS U
          k_steps
          rw [due_bad hb]
          walk_at "ENDMSG"
      · k_steps
        refine Hold.out ?_
        (rename News _ _ _ _ => lN)
        refine' (c_build_str w _ (Txt.join (Str.ofString "") [⟨#[a]⟩, ⟨#[b]⟩]) _ a b rfl).use _ _ _ _ _ _ _ _ _ _ _ _ _ _ _ _ _ _ _ _ _ ?cB ?cF ?cX ?cN ?cT ?cK ?cD ?cU ?_
        case cN => exact lN
        case cB => k_asm
        case cF => k_asm
        case cX => assumption
        case cT => assumption
        case cK => exact rfl
        case cD => ktr_room
        case cU => units_room
        intro v9 new9 h9 tk9 F9 N9 off9 hD9
        replace N9 := newsTail N9
        clear lN off9
        (try dsimp only)
        k_sweep
        k_steps
        exact endP_flat (str_flat hD9)
      · have hb : badRow [Pl.tx ⟨#[a]⟩, Pl.tx ⟨#[b]⟩, Pl.tx ⟨#[c]⟩] := trivial
        k_steps
        refine Hold.out ?_
        (rename News _ _ _ _ => lN)
        refine' (r_build_str w _ (Txt.join (Str.ofString "") [⟨#[a]⟩, ⟨#[b]⟩, ⟨#[c]⟩]) _ (.inr rfl)) _ _ _ _ _ _ _ _ _ _ _ _ _ _ _ _ _ _ _ _ _ ?cB ?cF ?cX ?cXB ?cN ?cT ?cTB ?cK ?cD ?cU ?cR
        case cN => exact lN
        case cB => k_asm
        case cF => k_asm
        case cX => assumption
        case cXB => assumption
        case cT => assumption
        case cTB => assumption
        case cK => exact rfl
        case cD => ktr_room
        case cU => units_room
        case cR =>
          intro G e t u h' tk' FG RS U
          k_steps
          rw [due_bad hb]
          walk_at "ENDMSG"
    | false =>
      refine eqL (r := false) (xs := ys) (ys := []) lN (by k_mem) (hys _) (by k_mem) .nil (pl_ok fun p hp => hok p (List.mem_filter.mp hp).1) (fun _ hd => nomatch hd) (by units_room) (hiff.trans (by rw [hall])) ?_
      clear hiff
      rcases hsh with hb | ⟨p, q, rfl, hb⟩
      · k_steps
        refine Hold.out ?_
        (rename News _ _ _ _ => lN)
        refine' (r_row w _ _ _ vs ps _ hok hv hb h7 (.inl rfl) (List.mem_cons_of_mem _ (List.mem_cons_of_mem _ (List.mem_cons_self ..)))) _ _ _ _ _ _ _ _ _ _ _ _ _ _ _ _ _ _ _ _ _ ?cB ?cF ?cX ?cXB ?cN ?cT ?cTB ?cK ?cD ?cU ?cR
        case cN => exact lN
        case cB => k_asm
        case cF => k_asm
        case cX => assumption
        case cXB => assumption
        case cT => assumption
        case cTB => assumption
        case cK => exact rfl
        case cD => ktr_room
        case cU => units_room
        case cR =>
          intro G e t u h' tk' FG RS U
          k_steps
          rw [due_bad hb]
          walk_at "ENDMSG"
      · k_steps
        refine Hold.out ?_
        (rename News _ _ _ _ => lN)
        refine' (c_row w _ _ _ vs p q _ hok hv hb (.inl rfl) (List.mem_cons_of_mem _ (List.mem_cons_of_mem _ (List.mem_cons_self ..)))).use _ _ _ _ _ _ _ _ _ _ _ _ _ _ _ _ _ _ _ _ _ ?cB ?cF ?cX ?cN ?cT ?cK ?cD ?cU ?_
        case cN => exact lN
        case cB => k_asm
        case cF => k_asm
        case cX => assumption
        case cT => assumption
        case cK => exact rfl
        case cD => ktr_room
        case cU => units_room
        intro v9 new9 h9 tk9 F9 N9 off9 hD9
        replace N9 := newsTail N9
        clear lN off9
        (try dsimp only)
        k_sweep
        k_steps
        exact endP_flat (due_flat hb hD9)
end
theorem c_name (w : World) (news : Led) (l n : Nat) (vs : List Value) (ps : List Pl) (k : Int) (t : Tok) (hk0 : 0 ≤ k) (hk3 : k < 3) (hok : ∀ p ∈ ps, p.Ok) (hv : FlAll vs ps) (h7 : noTwo ps) (hsh : badRow ps ∨ ∃ p q, ps = [p, q] ∧ okPair p q) (hl : (l, listOf vs.toArray n) ∈ news) :
    ConT w 59 news [.ref l, .int k t] 2 (fun new v => DatIn new v (dueOf ps)) := by
  have hvl : vs.length ≤ 64 := by
    have hlen := (hv []).length
    simp only [List.length_map] at hlen
    rcases hsh with hb | ⟨p, q, rfl, _⟩
    · match ps, hb with
      | [_], _ => simp at hlen; omega
      | [_, _], _ => simp at hlen; omega
      | [_, _, _], _ => simp at hlen; omega
    · simp at hlen; omega
  have h3 : k = 0 ∨ k = 1 ∨ k = 2 := by omega
  rcases h3 with rfl | rfl | rfl
  · rcases hsh with hb | ⟨p, q, rfl, hb⟩
    · exact c_nameR w news l n vs ps 0 t (.inl rfl) hvl hok hv hb h7 hl
    · exact c_nameG w news l n vs p q 0 t (.inl rfl) hvl hok hv hb hl
  · rcases hsh with hb | ⟨p, q, rfl, hb⟩
    · exact c_nameR w news l n vs ps 1 t (.inr rfl) hvl hok hv hb h7 hl
    · exact c_nameG w news l n vs p q 1 t (.inr rfl) hvl hok hv hb hl
  · exact c_name2 w news l n vs ps t hvl hok hv h7 hsh hl
theorem ints_of {vs : List Value} {ns : List Int} (h : IntsAre vs ns) : Ints vs := by
  induction h with
  | nil => intro x hx; cases hx
  | cons n t _ ih =>
    intro x hx
    rcases List.mem_cons.mp hx with rfl | hx
    · exact ⟨n, t, rfl⟩
    · exact ih x hx
theorem ints_to : ∀ {vs : List Value}, Ints vs → ∃ ns, IntsAre vs ns ∧ ns.length = vs.length
  | [], _ => ⟨[], .nil, rfl⟩
  | v :: vs, h => by
    obtain ⟨i, t, rfl⟩ := h v (List.mem_cons_self ..)
    obtain ⟨ns, h1, h2⟩ := ints_to (vs := vs) fun x hx => h x (List.mem_cons_of_mem _ hx)
    exact ⟨i :: ns, .cons i t h1, by simp [h2]⟩
theorem ints_at {vs : List Value} {ns : List Int} {i : Nat} {v : Value} (h : IntsAre vs ns) (e : vs[i]? = some v) : ∃ n t, ns[i]? = some n ∧ v = .int n t := by
  induction h generalizing i with
  | nil => simp at e
  | cons n t _ ih =>
    cases i with
    | zero => exact ⟨n, t, rfl, by simpa using e.symm⟩
    | succ i => simpa using ih (by simpa using e)
noncomputable def plD (ps : List Pl) : Dat := .list (ps.map Pl.dat)
theorem flAll_of : ∀ {vs : List Value} {ps : List Pl} {led : Led}, DatAll led vs (ps.map Pl.dat) → FlAll vs ps
  | [], [], _, _ => flAll_nil
  | v :: vs, p :: ps, led, h => by
    cases h with
    | cons h1 h2 => exact flAll_cons (flIn_of h1) (flAll_of h2)
theorem pl_open {led : Led} {v : Value} {ps : List Pl} (h : DatIn led v (plD ps)) : ∃ a vs n, v = .ref a ∧ (a, listOf (List.toArray vs) n) ∈ led ∧ FlAll vs ps := by
  unfold plD at h
  cases h with
  | list hm ha => exact ⟨_, _, _, rfl, hm, flAll_of ha⟩
theorem outL_dat {ps : List Pl} {new : Led} {v : Value} (h : OutL ps new v) : DatIn new v (plD ps) := by
  obtain ⟨r, k, vs, rfl, rfl, hv⟩ := h
  exact .list (List.mem_cons_self ..) (hv _)
/-- a comprehension's list so far, its items' objects ahead of the ledger -/
inductive KOwn (N0 : Led) (ds : List Dat) (ys : List Value) (nw : Led) : Prop
  | mk (own) (_ : nw = own ++ N0) (_ : DatAll own ys ds) (_ : ∀ p ∈ own, ∀ q ∈ N0, @Ne Nat q.1 p.1) : KOwn N0 ds ys nw
theorem kown_nil {N0 : Led} : KOwn N0 [] [] N0 := ⟨[], rfl, .nil, fun _ h => nomatch h⟩
theorem kown_step {N0 own new : Led} {ds : List Dat} {ys : List Value} {y : Value} {d : Dat} (hys : DatAll own ys ds) (hap : ∀ p ∈ own, ∀ q ∈ N0, @Ne Nat q.1 p.1) (hnew : ∀ q ∈ own ++ N0, ∀ p ∈ new, @Ne Nat q.1 p.1) (hd : DatIn (new ++ own) y d) :
    KOwn N0 (ds ++ [d]) (ys ++ [y]) (new ++ (own ++ N0)) := by
  refine ⟨new ++ own, by simp, (DatAll.mono (fun p hp => List.mem_append_right _ hp) hys).append (.cons hd .nil), fun p hp q hq => ?_⟩
  rcases List.mem_append.mp hp with hp | hp
  · exact hnew q (List.mem_append_right _ hq) p hp
  · exact hap p hp q hq
theorem kown_skip {N0 own new : Led} {ds : List Dat} {ys : List Value} (hys : DatAll own ys ds) (hap : ∀ p ∈ own, ∀ q ∈ N0, @Ne Nat q.1 p.1) (hnew : ∀ q ∈ own ++ N0, ∀ p ∈ new, @Ne Nat q.1 p.1) :
    KOwn N0 ds ys (new ++ (own ++ N0)) := by
  refine ⟨new ++ own, by simp, DatAll.mono (fun p hp => List.mem_append_right _ hp) hys, fun p hp q hq => ?_⟩
  rcases List.mem_append.mp hp with hp | hp
  · exact hnew q (List.mem_append_right _ hq) p hp
  · exact hap p hp q hq
theorem off3_app {I C D : Addr} : ∀ {new nw : Led}, (∀ p ∈ new, @Ne Nat p.1 I ∧ @Ne Nat p.1 C ∧ @Ne Nat p.1 D) → LCg.Off3 I C D nw → LCg.Off3 I C D (new ++ nw)
  | [], _, _, h => h
  | p :: new, nw, k, h => ⟨k p (List.mem_cons_self ..), off3_app (fun q hq => k q (List.mem_cons_of_mem _ hq)) h⟩
/-- a turn's end behind a call that made new objects -/
theorem compEnd_new {h₀ h' : Heap} {L I C D : Addr} {m : Str → Option Value} {s₁ : Shared} {oI oC oD : Obj} {S : Led → Prop} {rest : Value → Led → Prop} {y : Value} {tk : Nat} {new nw : Led}
    (F : Fr h₀ L h' m) (N : News h₀ L h' (new ++ ((I, oI) :: (C, oC) :: (D, oD) :: nw))) (off : LCg.Off3 I C D nw) (apart : ∀ q ∈ (I, oI) :: (C, oC) :: (D, oD) :: nw, ∀ p ∈ new, @Ne Nat q.1 p.1) (hS : S (new ++ nw)) (r : rest y (new ++ nw)) :
    LCg.CompEnd h₀ L m s₁ I oI C oC D oD S rest y { s₁ with heap := h', toks := tk } := by
  refine LCg.CompEnd.intro F N (new ++ nw) (fun p hp => ?_) (off3_app (fun p hp => ⟨?_, ?_, ?_⟩) off) hS r
  · simp only [List.mem_cons, List.mem_append] at hp ⊢
    rcases hp with rfl | rfl | rfl | hp | hp
    · exact .inr (.inl rfl)
    · exact .inr (.inr (.inl rfl))
    · exact .inr (.inr (.inr (.inl rfl)))
    · exact .inl hp
    · exact .inr (.inr (.inr (.inr hp)))
  · exact (apart (I, oI) (by simp) p hp).symm
  · exact (apart (C, oC) (by simp) p hp).symm
  · exact (apart (D, oD) (by simp) p hp).symm
theorem zEnd_new {h₀ h' : Heap} {L C D : Addr} {m : Str → Option Value} {s₁ : Shared} {its : Led} {oC oD : Obj} {keep : Led} {rest : Value → Led → Prop} {y : Value} {tk : Nat} {new nw : Led}
    (F : Fr h₀ L h' m) (N : News h₀ L h' (new ++ ((C, oC) :: (D, oD) :: (its ++ nw)))) (off : ∀ p ∈ nw, (∀ q ∈ its, @Ne Nat p.1 q.1) ∧ @Ne Nat p.1 C ∧ @Ne Nat p.1 D) (apart : ∀ q ∈ (C, oC) :: (D, oD) :: (its ++ nw), ∀ p ∈ new, @Ne Nat q.1 p.1) (hk : ∀ p ∈ keep, p ∈ nw) (r : rest y (new ++ nw)) :
    ZEnd h₀ L m s₁ its C oC D oD keep rest y { s₁ with heap := h', toks := tk } := by
  refine ⟨h', tk, new ++ nw, rfl, F, fun p hp => N p ?_, fun p hp => ?_, fun p hp => List.mem_append_right _ (hk p hp), r⟩
  · simp only [List.mem_cons, List.mem_append] at hp ⊢
    rcases hp with rfl | rfl | hp | hp | hp
    · exact .inr (.inl rfl)
    · exact .inr (.inr (.inl rfl))
    · exact .inr (.inr (.inr (.inl hp)))
    · exact .inl hp
    · exact .inr (.inr (.inr (.inr hp)))
  · rcases List.mem_append.mp hp with hp | hp
    · refine ⟨fun q hq => (apart q (by simp [hq]) p hp).symm, (apart (C, oC) (by simp) p hp).symm, (apart (D, oD) (by simp) p hp).symm⟩
    · exact off p hp
/-- what _law_places gives -/
structure Shp (ps : List Pl) : Prop where
  ok : ∀ p ∈ ps, p.Ok
  two : noTwo ps
  len : ps.length = 1 ∨ ps.length = 2 ∨ ps.length = 3
  sg : ∀ p ∈ ps, ∀ a, p = .tx a → a = EM ∨ ∃ k, k < 6 ∧ a = sgk k
theorem plOf_cases {k : Int} (h0 : 0 ≤ k) (h1 : k < 7) : plOf k = .no ∨ ∃ j, j < 6 ∧ plOf k = .tx (sgk j) := by
  unfold plOf
  by_cases h : k = 6
  · exact .inl (by rw [if_pos h])
  · refine .inr ⟨k.toNat, by omega, ?_⟩
    rw [if_neg h, sgk]
    congr 2
    omega
theorem shp_of {ps : List Pl} (h : ∀ p ∈ ps, p = .no ∨ p = .seven ∨ p = .tx EM ∨ ∃ j, j < 6 ∧ p = .tx (sgk j)) (h2 : noTwo ps) (hl : ps.length = 1 ∨ ps.length = 2 ∨ ps.length = 3) : Shp ps := by
  refine ⟨fun p hp => ?_, h2, hl, fun p hp a e => ?_⟩
  · rcases h p hp with rfl | rfl | rfl | ⟨j, hj, rfl⟩
    · trivial
    · trivial
    · exact ⟨by decide +kernel, by decide +kernel⟩
    · exact sgk_tx hj
  · subst e
    rcases h _ hp with h | h | h | ⟨j, hj, h⟩
    · cases h
    · cases h
    · exact .inl (by injection h)
    · exact .inr ⟨j, hj, by injection h⟩
theorem plOf_good {x : Int} : plOf (x.fmod 7) = .no ∨ plOf (x.fmod 7) = .seven ∨ plOf (x.fmod 7) = .tx EM ∨ ∃ j, j < 6 ∧ plOf (x.fmod 7) = .tx (sgk j) := by
  rcases plOf_cases (fm_range x 7 (by decide)).1 (fm_range x 7 (by decide)).2 with h | h
  · exact .inl h
  · exact .inr (.inr (.inr h))
theorem plOf_ne7 {x : Int} : plOf (x.fmod 7) ≠ .seven := by
  unfold plOf
  split <;> simp
theorem places_shp (x : Int) : Shp (placesOf x) := by
  have g1 := plOf_good (x := x)
  have g2 := plOf_good (x := x.fdiv 7)
  have n1 := plOf_ne7 (x := x)
  have n2 := plOf_ne7 (x := x.fdiv 7)
  have g3 : ∃ j, j < 6 ∧ Pl.tx (sgn ((x.fdiv 1176).fmod 6)) = .tx (sgk j) := by
    have := fm_range (x.fdiv 1176) 6 (by decide)
    refine ⟨((x.fdiv 1176).fmod 6).toNat, by omega, ?_⟩
    rw [sgk]; congr 2; omega
  unfold placesOf
  dsimp only
  split
  · split
    · exact shp_of (by intro p hp; simp only [List.mem_cons, List.not_mem_nil, or_false] at hp; rcases hp with rfl | rfl; exact .inr (.inl rfl); exact g2) (by intro e; injection e with e1 e2; injection e2 with e3; exact n2 e3) (.inr (.inl rfl))
    · exact shp_of (by intro p hp; simp only [List.mem_cons, List.not_mem_nil, or_false] at hp; rcases hp with rfl | rfl; exact g1; exact .inr (.inl rfl)) (by intro e; injection e with e1 e2; exact n1 e1) (.inr (.inl rfl))
  · split
    · split
      · exact shp_of (by intro p hp; simp only [List.mem_cons, List.not_mem_nil, or_false] at hp; rcases hp with rfl | rfl; exact .inr (.inr (.inl rfl)); exact g2) (by intro e; injection e with e1 e2; cases e1) (.inr (.inl rfl))
      · exact shp_of (by intro p hp; simp only [List.mem_cons, List.not_mem_nil, or_false] at hp; rcases hp with rfl | rfl; exact g1; exact .inr (.inr (.inl rfl))) (by intro e; injection e with e1 e2; exact n1 e1) (.inr (.inl rfl))
    · split
      · exact shp_of (by intro p hp; simp only [List.mem_cons, List.not_mem_nil, or_false] at hp; subst hp; exact g1) (by intro e; have := congrArg List.length e; simp at this) (.inl rfl)
      · split
        · exact shp_of (by intro p hp; simp only [List.mem_cons, List.not_mem_nil, or_false] at hp; rcases hp with rfl | rfl | rfl; exact g1; exact g2; exact .inr (.inr (.inr g3))) (by intro e; have := congrArg List.length e; simp at this) (.inr (.inr rfl))
        · exact shp_of (by intro p hp; simp only [List.mem_cons, List.not_mem_nil, or_false] at hp; rcases hp with rfl | rfl; exact g1; exact g2) (by intro e; injection e with e1 e2; exact n1 e1) (.inr (.inl rfl))
theorem shp_row {ps : List Pl} (h : Shp ps) : badRow ps ∨ ∃ p q, ps = [p, q] ∧ okPair p q := by
  match ps, h.len with
  | [p], _ => exact .inl trivial
  | [p, q], _ =>
    by_cases hpq : okPair p q
    · exact .inr ⟨p, q, rfl, hpq⟩
    · exact .inl hpq
  | [p, q, r], _ => exact .inl trivial
theorem c_due (w : World) (news : Led) (l n : Nat) (vs : List Value) (ps : List Pl) (hs : Shp ps) (hv : FlAll vs ps) (hl : (l, listOf vs.toArray n) ∈ news) : Con w 66 news [.ref l] 1 (fun new v => DatIn new v (dueOf ps)) := by
  have hlen := (hv []).length
  rw [List.length_map] at hlen
  rcases hs.len with h | h | h
  · obtain ⟨p, rfl⟩ := list1 h
    obtain ⟨v, rfl⟩ := list1 hlen
    exact c_due1 w news l n v p (hs.ok p (by simp)) (flAll_open hv).1 hl
  · obtain ⟨p, q, rfl⟩ := list2 h
    obtain ⟨v, v2, rfl⟩ := list2 hlen
    exact c_due2 w news l n v v2 p q (hs.ok p (by simp)) (hs.ok q (by simp)) (flAll_open hv).1 (flAll_open (flAll_open hv).2).1 hl
  · obtain ⟨p, q, r, rfl⟩ := list3 h
    obtain ⟨v, v2, v3, rfl⟩ := list3 hlen
    rw [due_bad (ps := [p, q, r]) trivial]
    exact c_due3 w news l n v v2 v3 p q r (hs.ok p (by simp)) (hs.ok q (by simp)) (hs.ok r (by simp)) (flAll_open hv).1 (flAll_open (flAll_open hv).2).1 (flAll_open (flAll_open (flAll_open hv).2).2).1 hl
theorem c_signs (w : World) (news : Led) (l n : Nat) (vs : List Value) (ps : List Pl) (hs : Shp ps) (hv : FlAll vs ps) (hl : (l, listOf vs.toArray n) ∈ news) : Con w 71 news [.ref l] 1 (OutL (signsOf ps)) := by
  have hlen := (hv []).length
  rw [List.length_map] at hlen
  rcases hs.len with h | h | h
  · obtain ⟨p, rfl⟩ := list1 h
    obtain ⟨v, rfl⟩ := list1 hlen
    exact c_signs1 w news l n v hl
  · obtain ⟨p, q, rfl⟩ := list2 h
    obtain ⟨v, v2, rfl⟩ := list2 hlen
    exact c_signs2 w news l n v v2 p q (hs.ok p (by simp)) (hs.ok q (by simp)) (flAll_open hv).1 (flAll_open (flAll_open hv).2).1 hl
  · obtain ⟨p, q, r, rfl⟩ := list3 h
    obtain ⟨v, v2, v3, rfl⟩ := list3 hlen
    exact c_signs3 w news l n v v2 v3 hl

noncomputable def texts7 : List Str := EM :: (List.range 6).map sgk
theorem shp_mem {ps : List Pl} (h : Shp ps) {a : Str} (hp : Pl.tx a ∈ ps) : a ∈ texts7 := by
  rcases h.sg _ hp a rfl with rfl | ⟨k, hk, rfl⟩
  · exact List.mem_cons_self ..
  · exact List.mem_cons_of_mem _ (List.mem_map.mpr ⟨k, List.mem_range.mpr hk, rfl⟩)
noncomputable def idxS (a : Str) : Nat := ((List.range 6).find? fun k => decide (sgk k = a)).getD 0
theorem idxS_sgk {k : Nat} (hk : k < 6) : idxS (sgk k) = k := by
  match k, hk with
  | 0, _ | 1, _ | 2, _ | 3, _ | 4, _ | 5, _ => decide +kernel
noncomputable def plIdx : Pl → Nat
  | .tx a => idxS a
  | _ => 0
noncomputable def rowOf (ps : List Pl) : List Nat := (signsOf ps).map plIdx
theorem signs_sub {ps : List Pl} {p : Pl} (h : p ∈ signsOf ps) : p ∈ ps ∧ p.isSign = true := by
  match ps with
  | [] => simp [signsOf] at h
  | [_] => simp [signsOf] at h
  | [p', q'] =>
    rw [show signsOf [p', q'] = if p'.isSeven || q'.isSeven then [] else [p', q'].filter Pl.isSign from rfl] at h
    split at h
    · simp at h
    · exact List.mem_filter.mp h
  | _ :: _ :: _ :: _ => simp [signsOf] at h
theorem sign_idx {ps : List Pl} (h : Shp ps) {p : Pl} (hp : p ∈ signsOf ps) : plIdx p < 6 ∧ p.dat = .str (sgk (plIdx p)) := by
  obtain ⟨h1, h2⟩ := signs_sub hp
  cases p with
  | no => cases h2
  | seven => cases h2
  | tx a =>
    rcases h.sg _ h1 a rfl with rfl | ⟨k, hk, rfl⟩
    · simp [Pl.isSign] at h2
    · show idxS (sgk k) < 6 ∧ Dat.str (sgk k) = .str (sgk (idxS (sgk k)))
      rw [idxS_sgk hk]
      exact ⟨hk, rfl⟩
theorem row_dat {ps : List Pl} (h : Shp ps) : plD (signsOf ps) = clD (rowOf ps) := by
  unfold plD clD rowOf
  rw [List.map_map]
  congr 1
  exact List.map_congr_left fun p hp => (sign_idx h hp).2
theorem row_lt {ps : List Pl} (h : Shp ps) : ∀ k ∈ rowOf ps, k < 6 := fun k hk => by
  obtain ⟨p, hp, rfl⟩ := List.mem_map.mp hk
  exact (sign_idx h hp).1
theorem signs_len (ps : List Pl) : (signsOf ps).length ≤ 2 := by
  match ps with
  | [] => simp [signsOf]
  | [_] => simp [signsOf]
  | [p', q'] =>
    rw [show signsOf [p', q'] = if p'.isSeven || q'.isSeven then [] else [p', q'].filter Pl.isSign from rfl]
    split
    · simp
    · exact List.length_filter_le _ _
  | _ :: _ :: _ :: _ => simp [signsOf]
noncomputable def goodB (c : Nat) : Bool := [97, 65, 98, 66, 100, 68, 67, 46].contains c
noncomputable def chkTx (x : Str) (r : List Nat) : Bool := x.cps.all (· < 128) && decide (x.cps.size ≤ 3) && x.cps.toList.all goodB && decide (readOf x.cps.toList = r)
theorem chk_two : ∀ a ∈ texts7, ∀ b ∈ texts7, (signsOf [.tx a, .tx b]).isEmpty = true ∨ chkTx (a ++ Str.ofString "." ++ b) (rowOf [.tx a, .tx b]) = true := by decide +kernel
theorem chk_left : ∀ a ∈ texts7, (signsOf [.tx a, .no]).isEmpty = true ∨ chkTx a (rowOf [.tx a, .no]) = true := by decide +kernel
theorem chk_right : ∀ b ∈ texts7, (signsOf [.no, .tx b]).isEmpty = true ∨ chkTx (Str.ofString "C" ++ Str.ofString "." ++ b) (rowOf [.no, .tx b]) = true := by decide +kernel
theorem chk_open {x : Str} {r : List Nat} (h : chkTx x r = true) : x.cps.all (· < 128) = true ∧ x.cps.size ≤ 3 ∧ (∀ c ∈ x.cps.toList, goodC c) ∧ readOf x.cps.toList = r := by
  simp only [chkTx, Bool.and_eq_true, decide_eq_true_eq, List.all_eq_true] at h
  refine ⟨h.1.1.1, h.1.1.2, fun c hc => ?_, h.2⟩
  have := h.1.2 c hc
  exact List.contains_iff_mem.mp this
theorem due_read {ps : List Pl} (h : Shp ps) (hs : signsOf ps ≠ []) : ∃ x, dueOf ps = .str x ∧ x.cps.all (· < 128) = true ∧ x.cps.size ≤ 3 ∧ (∀ c ∈ x.cps.toList, goodC c) ∧ readOf x.cps.toList = rowOf ps := by
  have hne : ∀ {l : List Pl}, l ≠ [] → ¬ l.isEmpty = true := fun hl he => hl (List.isEmpty_iff.mp he)
  match ps, h.len with
  | [p], _ => exact absurd rfl hs
  | [p, q], _ =>
    cases p with
    | seven => exact absurd (by simp [signsOf, Pl.isSeven]) hs
    | no =>
      cases q with
      | seven => exact absurd (by simp [signsOf, Pl.isSeven]) hs
      | no => exact absurd (by simp [signsOf, Pl.isSeven, Pl.isSign]) hs
      | tx b => exact ⟨_, rfl, chk_open ((chk_right b (shp_mem h (by simp))).resolve_left (hne hs))⟩
    | tx a =>
      cases q with
      | seven => exact absurd (by simp [signsOf, Pl.isSeven]) hs
      | no => exact ⟨_, rfl, chk_open ((chk_left a (shp_mem h (by simp))).resolve_left (hne hs))⟩
      | tx b => exact ⟨_, rfl, chk_open ((chk_two a (shp_mem h (by simp)) b (shp_mem h (by simp))).resolve_left (hne hs))⟩
  | [p, q, r], _ => exact absurd rfl hs
theorem ok_two : ∀ a ∈ texts7, ∀ b ∈ texts7, PyData.strOk (a ++ Str.ofString "." ++ b) = true := by decide +kernel
theorem ok_right : ∀ b ∈ texts7, PyData.strOk (Str.ofString "C" ++ Str.ofString "." ++ b) = true := by decide +kernel
theorem ok_msg : kqdOk 8 (.list [.str MSG]) = true := by decide +kernel
theorem due_ok {ps : List Pl} (h : Shp ps) : kqdOk 8 (dueOf ps) = true := by
  match ps, h.len with
  | [p], _ =>
    rw [due_bad (ps := [p]) trivial]; exact ok_msg
  | [p, q], _ =>
    cases p with
    | seven => cases q <;> first | exact ok_msg | rfl
    | no =>
      cases q with
      | seven => exact ok_msg
      | no => decide +kernel
      | tx b => exact ok_right b (shp_mem h (by simp))
    | tx a =>
      cases q with
      | seven => exact ok_msg
      | no => exact (h.ok (.tx a) (by simp)).ok
      | tx b => exact ok_two a (shp_mem h (by simp)) b (shp_mem h (by simp))
  | [p, q, r], _ =>
    rw [due_bad (ps := [p, q, r]) trivial]; exact ok_msg
noncomputable def keptOf (pss : List (List Pl)) : List (List Nat) := (pss.filter fun ps => !(signsOf ps).isEmpty).map rowOf
theorem kept_ok {pss : List (List Pl)} (h : ∀ ps ∈ pss, Shp ps) : ∀ r ∈ keptOf pss, (r.length = 1 ∨ r.length = 2) ∧ ∀ k ∈ r, k < 6 := fun r hr => by
  obtain ⟨ps, hp, rfl⟩ := List.mem_map.mp hr
  obtain ⟨h1, h2⟩ := List.mem_filter.mp hp
  refine ⟨?_, row_lt (h ps h1)⟩
  have h3 := signs_len ps
  have h4 : (signsOf ps).length ≠ 0 := fun e => by
    rw [List.length_eq_zero_iff.mp e] at h2
    simp at h2
  unfold rowOf
  rw [List.length_map]
  omega

section
/-! the plain law: no program in sight -/
noncomputable def hasL (f : Nat → AL) (i j : Nat) : Bool := kdpHas (f i) (sgk j)
noncomputable def bothB (f : Nat → AL) (i : Nat) : Bool := hasL f (2 * i + 1) (2 * i) && hasL f (2 * i) (2 * i + 1)
noncomputable def heldN (kept : List (List Nat)) (i j : Nat) : Bool := ((waysOf kept).filter fun x => !heldB x i && !heldB x j).isEmpty
noncomputable def cntAt (kept : List (List Nat)) (k i : Nat) : Int := ((i : Int) + 1) * countIn (.str (sgk k)) (((kept.getD i []).map sgk).map PyData.str)
theorem has_put {c : AL} {k x : Str} {v : Int} : kdpHas (kdpPut c k v) x = (kdpHas c x || decide (k = x)) := by
  rw [Bool.eq_iff_iff, Bool.or_eq_true, decide_eq_true_eq, has_mem, has_mem]
  cases e : kdpHas c k with
  | true =>
    rw [put_keys_has e]
    exact ⟨.inl, fun h => h.elim id fun q => q ▸ has_mem.mp e⟩
  | false =>
    rw [put_miss e, List.map_append, List.mem_append]
    simp [eq_comm]
theorem has_addS {c : AL} {p : Str × Int} {x : Str} : kdpHas (addS c p) x = (kdpHas c x || decide (p.1 = x)) := by
  unfold addS
  split <;> exact has_put
theorem has_fold {x : Str} : ∀ (s c : AL), kdpHas (s.foldl addS c) x = (kdpHas c x || kdpHas s x)
  | [], c => by simp [kdpHas]
  | p :: s, c => by
    rw [List.foldl_cons, has_fold s, has_addS, Bool.or_assoc]
    rfl
theorem has_addC {a b : AL} {x : Str} (h : (a.map (·.1)).Nodup) : kdpHas (addC a b) x = (kdpHas a x || kdpHas b x) := by
  unfold addC
  rw [copyC_eq h, has_fold]
noncomputable def Nod (f : Nat → AL) : Prop := ∀ i, ((f i).map (·.1)).Nodup
theorem fold_nodup : ∀ (s c : AL), (c.map (·.1)).Nodup → ((s.foldl addS c).map (·.1)).Nodup
  | [], _, h => h
  | _ :: s, _, h => fold_nodup s _ (addS_nodup h)
theorem addC_nodup {a b : AL} (h : (a.map (·.1)).Nodup) : ((addC a b).map (·.1)).Nodup := by
  unfold addC
  rw [copyC_eq h]
  exact fold_nodup b a h
theorem Nod.edge {f : Nat → AL} (h : Nod f) (g o : Nat) (k : Int) : Nod (edge f g o k) := fun i => by
  unfold Mine.edge
  split
  · exact addC_nodup (h g)
  · exact h i
theorem has_edge {f : Nat → AL} (h : Nod f) {g o i : Nat} {k : Int} {x : Str} : kdpHas (edge f g o k i) x = (kdpHas (f i) x || (decide (i = g) && decide (sgk (opp o) = x))) := by
  unfold edge
  by_cases e : i = g
  · subst e
    rw [if_pos rfl, has_addC (h i)]
    simp [kdpHas]
  · rw [if_neg e]
    simp [e]
theorem tot_edge {f : Nat → AL} (h : Nod f) {g o i : Nat} {k : Int} : tot (edge f g o k i) = tot (f i) + (if i = g then k else 0) := by
  unfold edge
  by_cases e : i = g
  · subst e
    rw [if_pos rfl, if_pos rfl, tot_addC (h i)]
    simp [tot]
  · rw [if_neg e, if_neg e, Int.add_zero]
theorem edges_has {k : Int} {i : Nat} {x : Str} : ∀ (es : List (Nat × Nat)) (f : Nat → AL), Nod f → Nod (es.foldl (fun f e => edge f e.1 e.2 k) f) ∧ kdpHas (es.foldl (fun f e => edge f e.1 e.2 k) f i) x = (kdpHas (f i) x || es.any fun e => decide (i = e.1) && decide (sgk (opp e.2) = x)) ∧
    tot (es.foldl (fun f e => edge f e.1 e.2 k) f i) = tot (f i) + (es.map fun e => if i = e.1 then k else 0).sum
  | [], f, h => ⟨h, by simp, by simp⟩
  | e :: es, f, h => by
    obtain ⟨a, b, c⟩ := edges_has (k := k) (i := i) (x := x) es (edge f e.1 e.2 k) (h.edge e.1 e.2 k)
    refine ⟨a, ?_, ?_⟩
    · rw [List.foldl_cons, b, has_edge h, List.any_cons, Bool.or_assoc]
    · rw [List.foldl_cons, c, tot_edge h, List.map_cons, List.sum_cons]; omega
noncomputable def cSum (i : Nat) : Nat → List (List Nat) → Int
  | _, [] => 0
  | n, r :: rs => ((rowEdges r).map fun e => if i = e.1 then ((n : Int) + 1) else 0).sum + cSum i (n + 1) rs
theorem go_has {i : Nat} {x : Str} : ∀ (rows : List (List Nat)) (n : Nat) (f : Nat → AL), Nod f → Nod (callsGo n rows f) ∧ kdpHas (callsGo n rows f i) x = (kdpHas (f i) x || rows.any fun r => (rowEdges r).any fun e => decide (i = e.1) && decide (sgk (opp e.2) = x)) ∧
    tot (callsGo n rows f i) = tot (f i) + cSum i n rows
  | [], n, f, h => ⟨h, by simp [callsGo], by simp [callsGo, cSum]⟩
  | r :: rs, n, f, h => by
    obtain ⟨a, b, c⟩ := edges_has (k := (n : Int) + 1) (i := i) (x := x) (rowEdges r) f h
    obtain ⟨a', b', c'⟩ := go_has (i := i) (x := x) rs (n + 1) (callsStep f ((n : Int) + 1) r) a
    refine ⟨a', ?_, ?_⟩
    · show kdpHas (callsGo (n + 1) rs (callsStep f ((n : Int) + 1) r) i) x = _
      rw [b', List.any_cons, ← Bool.or_assoc]
      congr 1
    · show tot (callsGo (n + 1) rs (callsStep f ((n : Int) + 1) r) i) = _
      rw [c', cSum]
      have : tot (callsStep f ((n : Int) + 1) r i) = _ := c
      rw [this]; omega
theorem calls_nod (rows : List (List Nat)) : Nod (callsOf rows) := (go_has (i := 0) (x := sgk 0) rows 0 (fun _ => []) fun _ => List.nodup_nil).1
theorem opp_opp {i : Nat} (hi : i < 6) : opp (opp i) = i := by
  match i, hi with
  | 0, _ | 1, _ | 2, _ | 3, _ | 4, _ | 5, _ => rfl
theorem opp_ne {i : Nat} (hi : i < 6) : opp i ≠ i := by
  match i, hi with
  | 0, _ | 1, _ | 2, _ | 3, _ | 4, _ | 5, _ => decide
/-- the clause of two signs is kept -/
noncomputable def EB (rows : List (List Nat)) (i j : Nat) : Bool := rows.any fun r => (rowEdges r).any fun e => decide (i = e.1) && decide (j = e.2)
theorem EB_symm (rows : List (List Nat)) (i j : Nat) : EB rows i j = EB rows j i := by
  unfold EB
  congr 1
  funext r
  match r with
  | [] => rfl
  | [a] => simp [rowEdges, Bool.and_comm]
  | [a, b] =>
    simp only [rowEdges, List.any_cons, List.any_nil, Bool.or_false]
    rw [Bool.or_comm, Bool.and_comm, Bool.and_comm (decide (i = a))]
  | _ :: _ :: _ :: _ => rfl
theorem calls_EB {rows : List (List Nat)} (hk : ∀ r ∈ rows, ∀ k ∈ r, k < 6) {i j : Nat} (hj : j < 6) : hasL (callsOf rows) i j = EB rows i (opp j) := by
  have h := (go_has (i := i) (x := sgk j) rows 0 (fun _ => []) fun _ => List.nodup_nil).2.1
  unfold hasL
  rw [show callsOf rows i = callsGo 0 rows (fun _ => []) i from rfl, h, show kdpHas [] (sgk j) = false from rfl, Bool.false_or, EB, Bool.eq_iff_iff, List.any_eq_true, List.any_eq_true]
  have key : ∀ r ∈ rows, ((rowEdges r).any fun e => decide (i = e.1) && decide (sgk (opp e.2) = sgk j)) = ((rowEdges r).any fun e => decide (i = e.1) && decide (opp j = e.2)) := fun r hr => by
    rw [Bool.eq_iff_iff, List.any_eq_true, List.any_eq_true]
    have hl := rowEdges_lt (hk r hr)
    constructor
    · rintro ⟨e, he, q⟩
      refine ⟨e, he, ?_⟩
      rw [Bool.and_eq_true, decide_eq_true_eq, decide_eq_true_eq] at q ⊢
      refine ⟨q.1, ?_⟩
      rw [← sgk_inj (opp_lt (hl e he).2) hj q.2, opp_opp (hl e he).2]
    · rintro ⟨e, he, q⟩
      refine ⟨e, he, ?_⟩
      rw [Bool.and_eq_true, decide_eq_true_eq, decide_eq_true_eq] at q ⊢
      refine ⟨q.1, ?_⟩
      rw [← q.2, opp_opp hj]
  constructor
  · rintro ⟨r, hr, q⟩; exact ⟨r, hr, (key r hr) ▸ q⟩
  · rintro ⟨r, hr, q⟩; exact ⟨r, hr, (key r hr).symm ▸ q⟩
/-- Warshall's step, in plain tables -/
noncomputable def WB (M : Nat → Nat → Bool) (mid i j : Nat) : Bool := M i j || (M i mid && M mid j)
theorem nod_lead {f : Nat → AL} (h : Nod f) (mid g : Nat) : Nod (leadStep mid g f) := by
  unfold leadStep
  split
  · intro i
    show ((if i = g then addC (f g) (f mid) else f i).map (·.1)).Nodup
    split
    · exact addC_nodup (h g)
    · exact h i
  · exact h
theorem has_lead {f : Nat → AL} (h : Nod f) {mid g i j : Nat} : hasL (leadStep mid g f) i j = if i = g then WB (hasL f) mid i j else hasL f i j := by
  unfold leadStep
  by_cases e : i = g
  · subst e
    rw [if_pos rfl]
    cases q : kdpHas (f i) (sgk mid) with
    | true =>
      rw [if_pos rfl]
      show kdpHas (if i = i then addC (f i) (f mid) else f i) (sgk j) = _
      rw [if_pos rfl, has_addC (h i)]
      unfold WB hasL
      rw [q, Bool.true_and]
    | false =>
      rw [if_neg Bool.false_ne_true]
      unfold WB hasL
      rw [q, Bool.false_and, Bool.or_false]
  · rw [if_neg e]
    split
    · show kdpHas (if i = g then addC (f g) (f mid) else f i) (sgk j) = _
      rw [if_neg e]; rfl
    · rfl
theorem has_goals {mid i j : Nat} : ∀ (gs : List Nat) (f : Nat → AL), Nod f → Nod (gs.foldl (fun f g => leadStep mid g f) f) ∧ hasL (gs.foldl (fun f g => leadStep mid g f) f) i j = if i ∈ gs then WB (hasL f) mid i j else hasL f i j
  | [], f, h => ⟨h, by simp⟩
  | g :: gs, f, h => by
    obtain ⟨a, b⟩ := has_goals (mid := mid) (i := i) (j := j) gs _ (nod_lead h mid g)
    refine ⟨a, ?_⟩
    rw [List.foldl_cons, b]
    have e1 : hasL (leadStep mid g f) mid j = hasL f mid j := by
      rw [has_lead h]
      split
      · unfold WB; cases hasL f mid j <;> simp
      · rfl
    have e2 : hasL (leadStep mid g f) i mid = hasL f i mid := by
      rw [has_lead h]
      split
      · unfold WB; cases hasL f i mid <;> simp
      · rfl
    have e3 : WB (hasL (leadStep mid g f)) mid i j = WB (hasL f) mid i j := by
      unfold WB
      rw [e1, e2, has_lead h]
      split
      · unfold WB; cases hasL f i j <;> cases hasL f i mid <;> cases hasL f mid j <;> rfl
      · rfl
    rw [e3, has_lead h]
    by_cases q : i = g
    · subst q; simp
    · simp [q]
theorem has_mids : ∀ (ms : List Nat) (f : Nat → AL) (M : Nat → Nat → Bool), (∀ m ∈ ms, m < 6) → Nod f → (∀ i, i < 6 → ∀ j, hasL f i j = M i j) → ∀ i, i < 6 → ∀ j, hasL (ms.foldl leadsMid f) i j = ms.foldl WB M i j
  | [], _, _, _, _, h, i, hi, j => h i hi j
  | m :: ms, f, M, hm, hn, h, i, hi, j => by
    have hm6 := hm m (List.mem_cons_self ..)
    refine has_mids ms (leadsMid f m) (WB M m) (fun m' h' => hm m' (List.mem_cons_of_mem _ h')) (has_goals (i := 0) (j := 0) (mid := m) (List.range 6) f hn).1 (fun i hi j => ?_) i hi j
    show hasL ((List.range 6).foldl (fun f g => leadStep m g f) f) i j = WB M m i j
    rw [(has_goals (List.range 6) f hn).2, if_pos (List.mem_range.mpr hi)]
    unfold WB
    rw [h i hi, h i hi, h m hm6]
noncomputable def LM (M : Nat → Nat → Bool) : Nat → Nat → Bool := (List.range 6).foldl WB M
theorem leads_LM {f : Nat → AL} {M : Nat → Nat → Bool} (hn : Nod f) (h : ∀ i, i < 6 → ∀ j, hasL f i j = M i j) {i : Nat} (hi : i < 6) (j : Nat) : hasL (leadsOf f) i j = LM M i j :=
  has_mids (List.range 6) f M (fun m hm => List.mem_range.mp hm) hn h i hi j
noncomputable def Cl (k : Nat) (M : Nat → Nat → Bool) : Prop := ∀ m, m < k → ∀ i j, M i m = true → M m j = true → M i j = true
theorem Cl.step {k : Nat} {M : Nat → Nat → Bool} (h : Cl k M) : Cl (k + 1) (WB M k) := by
  intro m hm i j h1 h2
  unfold WB at *
  rw [Bool.or_eq_true, Bool.and_eq_true] at *
  by_cases e : m = k
  · subst e
    have a : M i m = true := h1.elim id (·.1)
    have b : M m j = true := h2.elim id (·.2)
    exact .inr ⟨a, b⟩
  · have hm' : m < k := by omega
    rcases h1 with h1 | ⟨h1, h1'⟩ <;> rcases h2 with h2 | ⟨h2, h2'⟩
    · exact .inl (h m hm' _ _ h1 h2)
    · exact .inr ⟨h m hm' _ _ h1 h2, h2'⟩
    · exact .inr ⟨h1, h m hm' _ _ h1' h2⟩
    · exact .inr ⟨h1, h2'⟩
theorem LM_trans {M : Nat → Nat → Bool} {i m j : Nat} (hm : m < 6) (h1 : LM M i m = true) (h2 : LM M m j = true) : LM M i j = true := by
  have h0 : Cl 0 M := fun m h => absurd h (Nat.not_lt_zero _)
  have h6 : Cl 6 (WB (WB (WB (WB (WB (WB M 0) 1) 2) 3) 4) 5) := h0.step.step.step.step.step.step
  exact h6 m hm i j h1 h2
theorem WB_le {M : Nat → Nat → Bool} {k i j : Nat} (h : M i j = true) : WB M k i j = true := by
  unfold WB; rw [h]; rfl
theorem LM_le {M : Nat → Nat → Bool} {i j : Nat} (h : M i j = true) : LM M i j = true :=
  WB_le (WB_le (WB_le (WB_le (WB_le (WB_le h)))))
theorem fold_sub {R : Nat → Nat → Prop} (hR : ∀ i m j, i < 6 → m < 6 → j < 6 → R i m → R m j → R i j) : ∀ (ms : List Nat) (M : Nat → Nat → Bool), (∀ m ∈ ms, m < 6) → (∀ i j, i < 6 → j < 6 → M i j = true → R i j) → ∀ i j, i < 6 → j < 6 → ms.foldl WB M i j = true → R i j
  | [], _, _, h, i, j, hi, hj, q => h i j hi hj q
  | m :: ms, M, hm, h, i, j, hi, hj, q => by
    refine fold_sub hR ms (WB M m) (fun m' h' => hm m' (List.mem_cons_of_mem _ h')) (fun i j hi hj q => ?_) i j hi hj q
    have hm6 := hm m (List.mem_cons_self ..)
    unfold WB at q
    rw [Bool.or_eq_true, Bool.and_eq_true] at q
    rcases q with q | ⟨q1, q2⟩
    · exact h i j hi hj q
    · exact hR i m j hi hm6 hj (h i m hi hm6 q1) (h m j hm6 hj q2)
theorem LM_sub {M : Nat → Nat → Bool} {R : Nat → Nat → Prop} (hR : ∀ i m j, i < 6 → m < 6 → j < 6 → R i m → R m j → R i j) (hM : ∀ i j, i < 6 → j < 6 → M i j = true → R i j) {i j : Nat} (hi : i < 6) (hj : j < 6) (h : LM M i j = true) : R i j :=
  fold_sub hR (List.range 6) M (fun m hm => List.mem_range.mp hm) hM i j hi hj h
/-- the tables at last, by the clauses kept -/
noncomputable def TL (rows : List (List Nat)) : Nat → Nat → Bool := LM fun i j => EB rows i (opp j)
theorem TL_trans {rows : List (List Nat)} {i m j : Nat} (hm : m < 6) (h1 : TL rows i m = true) (h2 : TL rows m j = true) : TL rows i j = true := LM_trans hm h1 h2
theorem TL_skew1 {rows : List (List Nat)} {i j : Nat} (hi : i < 6) (hj : j < 6) (h : TL rows i j = true) : TL rows (opp j) (opp i) = true := by
  refine LM_sub (R := fun i j => TL rows (opp j) (opp i) = true) (fun i m j hi hm hj h1 h2 => TL_trans (opp_lt hm) h2 h1) (fun i j hi hj h => LM_le ?_) hi hj h
  show EB rows (opp j) (opp (opp i)) = true
  rw [opp_opp hi, EB_symm]; exact h
theorem TL_skew {rows : List (List Nat)} {i j : Nat} (hi : i < 6) (hj : j < 6) : TL rows i j = TL rows (opp j) (opp i) := by
  rw [Bool.eq_iff_iff]
  refine ⟨TL_skew1 hi hj, fun h => ?_⟩
  have := TL_skew1 (opp_lt hj) (opp_lt hi) h
  rwa [opp_opp hi, opp_opp hj] at this
theorem leads_TL {rows : List (List Nat)} (hk : ∀ r ∈ rows, ∀ k ∈ r, k < 6) {i j : Nat} (hi : i < 6) (hj : j < 6) : hasL (leadsOf (callsOf rows)) i j = TL rows i j := by
  have a := leads_LM (f := callsOf rows) (M := hasL (callsOf rows)) (calls_nod rows) (fun _ _ _ => rfl) hi j
  rw [a]
  have hM : ∀ i j, i < 6 → j < 6 → hasL (callsOf rows) i j = EB rows i (opp j) := fun i j _ hj => calls_EB hk hj
  rw [Bool.eq_iff_iff]
  constructor
  · exact LM_sub (R := fun i j => TL rows i j = true) (fun i m j hi hm hj h1 h2 => TL_trans hm h1 h2) (fun i j hi hj h => LM_le (by rw [← hM i j hi hj]; exact h)) hi hj
  · exact LM_sub (R := fun i j => LM (hasL (callsOf rows)) i j = true) (fun i m j hi hm hj h1 h2 => LM_trans hm h1 h2) (fun i j hi hj h => LM_le (by rw [hM i j hi hj]; exact h)) hi hj
theorem rows_lt {kept : List (List Nat)} (hk : ∀ r ∈ kept, (r.length = 1 ∨ r.length = 2) ∧ ∀ k ∈ r, k < 6) : ∀ r ∈ kept, ∀ k ∈ r, k < 6 := fun r hr => (hk r hr).2
theorem law_skew {kept : List (List Nat)} (hk : ∀ r ∈ kept, (r.length = 1 ∨ r.length = 2) ∧ ∀ k ∈ r, k < 6) {i j : Nat} (hi : i < 6) (hj : j < 6) :
    hasL (leadsOf (callsOf kept)) i (opp j) = hasL (leadsOf (callsOf kept)) j (opp i) := by
  rw [leads_TL (rows_lt hk) hi (opp_lt hj), leads_TL (rows_lt hk) hj (opp_lt hi), TL_skew hi (opp_lt hj), opp_opp hj]
/-! a way, from tables that lead nowhere both ways -/
structure Good (L : Nat → Nat → Bool) (S : Nat → Bool) : Prop where
  cl : ∀ g h, g < 6 → h < 6 → S g = true → L h g = true → S h = true
  ok : ∀ g, g < 6 → S g = true → S (opp g) = false
theorem ff {b : Bool} (h : ¬ b = true) : b = false := Bool.eq_false_iff.mpr h
theorem good_ext {L : Nat → Nat → Bool} (hT : ∀ i m j, i < 6 → m < 6 → j < 6 → L i m = true → L m j = true → L i j = true) (hS : ∀ i j, i < 6 → j < 6 → L i j = true → L (opp j) (opp i) = true)
    {S : Nat → Bool} (G : Good L S) {g : Nat} (hg : g < 6) (h2 : S (opp g) = false) (h3 : L (opp g) g = false) : ∃ S', Good L S' ∧ (∀ h, S h = true → S' h = true) ∧ S' g = true := by
  cases h1 : S g with
  | true => exact ⟨S, G, fun _ h => h, h1⟩
  | false =>
    refine ⟨fun h => S h || decide (h = g) || L h g, ⟨fun a h ha hh q1 q2 => ?_, fun a ha q => ?_⟩, fun h q => by simp [q], by simp⟩
    · simp only [Bool.or_eq_true, decide_eq_true_eq] at q1 ⊢
      rcases q1 with (q1 | rfl) | q1
      · exact .inl (.inl (G.cl a h ha hh q1 q2))
      · exact .inr q2
      · exact .inr (hT h a g hh ha hg q2 q1)
    · have hoa := opp_lt ha
      have hog := opp_lt hg
      simp only [Bool.or_eq_true, decide_eq_true_eq] at q
      refine ff fun q' => ?_
      simp only [Bool.or_eq_true, decide_eq_true_eq] at q'
      have t1 : ∀ x, x < 6 → S x = true → L (opp x) g = true → False := fun x hx sx l => by
        have := hS (opp x) g (opp_lt hx) hg l
        rw [opp_opp hx] at this
        have := G.cl x (opp g) hx hog sx this
        rw [h2] at this; cases this
      rcases q with (q | rfl) | q
      · rcases q' with (q' | q') | q'
        · rw [G.ok a ha q] at q'; cases q'
        · rw [← q', opp_opp ha, q] at h2; cases h2
        · exact t1 a ha q q'
      · rcases q' with (q' | q') | q'
        · rw [h2] at q'; cases q'
        · exact opp_ne ha q'
        · rw [h3] at q'; cases q'
      · rcases q' with (q' | q') | q'
        · exact t1 (opp a) hoa q' (by rw [opp_opp ha]; exact q)
        · rw [← q', opp_opp ha] at h3
          rw [← q'] at q
          rw [h3] at q; cases q
        · have := hS a g ha hg q
          rw [hT (opp g) (opp a) g hog hoa hg this q'] at h3; cases h3
theorem way_at (b0 b1 b2 : Bool) : ∃ x, x < 8 ∧ heldB x 0 = !b0 ∧ heldB x 1 = b0 ∧ heldB x 2 = !b1 ∧ heldB x 3 = b1 ∧ heldB x 4 = !b2 ∧ heldB x 5 = b2 := by
  cases b0 <;> cases b1 <;> cases b2
  · exact ⟨0, by decide +kernel⟩
  · exact ⟨4, by decide +kernel⟩
  · exact ⟨2, by decide +kernel⟩
  · exact ⟨6, by decide +kernel⟩
  · exact ⟨1, by decide +kernel⟩
  · exact ⟨5, by decide +kernel⟩
  · exact ⟨3, by decide +kernel⟩
  · exact ⟨7, by decide +kernel⟩
theorem held_opp {x a : Nat} (hx : x < 8) (ha : a < 6) : heldB x (opp a) = !heldB x a := by
  have h : ∀ (x : Fin 8) (a : Fin 6), heldB x (opp a) = !heldB x a := by decide +kernel
  exact h ⟨x, hx⟩ ⟨a, ha⟩
theorem way_of {L : Nat → Nat → Bool} {S : Nat → Bool} (G : Good L S) (h0 : S 0 = true ∨ S 1 = true) (h1 : S 2 = true ∨ S 3 = true) (h2 : S 4 = true ∨ S 5 = true) : ∃ x, x < 8 ∧ ∀ a, a < 6 → heldB x a = S a := by
  have e : ∀ k, k < 6 → (S k = true ∨ S (opp k) = true) → S k = !S (opp k) := fun k hk h => by
    cases q : S k with
    | true => rw [G.ok k hk q]; rfl
    | false =>
      rcases h with h | h
      · rw [q] at h; cases h
      · rw [h]; rfl
  have e0 := e 0 (by decide) h0
  have e2 := e 2 (by decide) h1
  have e4 := e 4 (by decide) h2
  obtain ⟨x, hx, a0, a1, a2, a3, a4, a5⟩ := way_at (S 1) (S 3) (S 5)
  refine ⟨x, hx, fun a ha => ?_⟩
  match a, ha with
  | 0, _ => exact a0.trans e0.symm
  | 1, _ => exact a1
  | 2, _ => exact a2.trans e2.symm
  | 3, _ => exact a3
  | 4, _ => exact a4.trans e4.symm
  | 5, _ => exact a5
theorem EB_row {rows : List (List Nat)} {r : List Nat} {g o : Nat} (hr : r ∈ rows) (he : (g, o) ∈ rowEdges r) : EB rows g o = true :=
  List.any_eq_true.mpr ⟨r, hr, List.any_eq_true.mpr ⟨(g, o), he, by simp⟩⟩
theorem TL_edge {rows : List (List Nat)} {g o : Nat} (ho : o < 6) (h : EB rows g o = true) : TL rows g (opp o) = true := LM_le (by
  show EB rows g (opp (opp o)) = true
  rw [opp_opp ho]; exact h)
/-- a way that lets all rows hold follows the tables -/
theorem way_follows {kept : List (List Nat)} (hk : ∀ r ∈ kept, (r.length = 1 ∨ r.length = 2) ∧ ∀ k ∈ r, k < 6) {x : Nat} (hx : x < 8) (hw : keepsB kept x = true) {i j : Nat} (hi : i < 6) (hj : j < 6) (h : TL kept i j = true) (hh : heldB x j = true) : heldB x i = true := by
  refine LM_sub (R := fun i j => heldB x j = true → heldB x i = true) (fun i m j _ _ _ h1 h2 q => h1 (h2 q)) (fun i j hi hj h q => ?_) hi hj h hh
  obtain ⟨r, hr, q2⟩ := List.any_eq_true.mp h
  obtain ⟨e, he, q3⟩ := List.any_eq_true.mp q2
  rw [Bool.and_eq_true, decide_eq_true_eq, decide_eq_true_eq] at q3
  have hrow : r.any (heldB x) = true := List.all_eq_true.mp hw r hr
  have hno : heldB x (opp j) = false := by rw [held_opp hx hj, q]; rfl
  obtain ⟨e1, e2⟩ := e
  obtain ⟨rfl, q4⟩ := q3
  simp only at q4 
  rw [q4] at hno
  match r, he, hrow with
  | [a], he, hrow =>
    simp only [rowEdges, List.mem_singleton, Prod.mk.injEq] at he
    simp only [List.any_cons, List.any_nil, Bool.or_false] at hrow
    rw [he.1]; exact hrow
  | [a, b], he, hrow =>
    simp only [rowEdges, List.mem_cons, List.not_mem_nil, or_false, Prod.mk.injEq] at he
    simp only [List.any_cons, List.any_nil, Bool.or_false, Bool.or_eq_true] at hrow
    rcases he with ⟨rfl, rfl⟩ | ⟨rfl, rfl⟩
    · exact hrow.elim id fun h => by rw [hno] at h; cases h
    · exact hrow.elim (fun h => by rw [hno] at h; cases h) id
theorem law_told {kept : List (List Nat)} (hk : ∀ r ∈ kept, (r.length = 1 ∨ r.length = 2) ∧ ∀ k ∈ r, k < 6) {i j : Nat} (hi : i < 6) (hj : j < 6) (hij : opp i ≠ j) :
    ((List.range 3).any (bothB (leadsOf (callsOf kept))) || hasL (leadsOf (callsOf kept)) j (opp i) || hasL (leadsOf (callsOf kept)) i (opp i) || hasL (leadsOf (callsOf kept)) j (opp j)) = heldN kept i j := by
  have hr := rows_lt hk
  have hoi := opp_lt hi
  have hoj := opp_lt hj
  rw [leads_TL hr hj hoi, leads_TL hr hi hoi, leads_TL hr hj hoj]
  have hbb : ∀ k, k < 3 → bothB (leadsOf (callsOf kept)) k = (TL kept (2 * k + 1) (2 * k) && TL kept (2 * k) (2 * k + 1)) := fun k h3 => by
    unfold bothB
    rw [leads_TL hr (by omega) (by omega), leads_TL hr (by omega) (by omega)]
  have hway : heldN kept i j = true ↔ ∀ x, x < 8 → keepsB kept x = true → heldB x i = true ∨ heldB x j = true := by
    unfold heldN waysOf
    rw [List.isEmpty_iff, List.filter_eq_nil_iff]
    constructor
    · intro h x hx hw
      have := h x (List.mem_filter.mpr ⟨List.mem_range.mpr hx, hw⟩)
      cases a : heldB x i <;> cases b : heldB x j <;> simp [a, b] at this ⊢
    · intro h x hx
      obtain ⟨hx, hw⟩ := List.mem_filter.mp hx
      rcases h x (List.mem_range.mp hx) hw with a | a <;> simp [a]
  rw [Bool.eq_iff_iff, hway]
  simp only [Bool.or_eq_true]
  constructor
  · rintro (((h | h) | h) | h) x hx hw
    · obtain ⟨k, h3, hb⟩ := List.any_eq_true.mp h
      have h3 := List.mem_range.mp h3
      rw [hbb k h3, Bool.and_eq_true] at hb
      have hopp : opp (2 * k) = 2 * k + 1 := by unfold opp; rw [if_pos (by omega)]
      have ho := held_opp hx (show 2 * k < 6 by omega)
      rw [hopp] at ho
      cases q : heldB x (2 * k) with
      | true =>
        have := way_follows hk hx hw (by omega) (by omega) hb.1 q
        rw [ho, q] at this; cases this
      | false =>
        rw [q] at ho
        have := way_follows hk hx hw (by omega) (by omega) hb.2 ho
        rw [q] at this; cases this
    · cases q : heldB x i with
      | true => exact .inl rfl
      | false => exact .inr (way_follows hk hx hw hj hoi h (by rw [held_opp hx hi, q]; rfl))
    · cases q : heldB x i with
      | true => exact .inl rfl
      | false => exact .inl (q ▸ way_follows hk hx hw hi hoi h (by rw [held_opp hx hi, q]; rfl))
    · cases q : heldB x j with
      | true => exact .inr rfl
      | false => exact .inr (q ▸ way_follows hk hx hw hj hoj h (by rw [held_opp hx hj, q]; rfl))
  · intro hall
    refine Classical.byContradiction fun hn => ?_
    have n1 : (List.range 3).any (bothB (leadsOf (callsOf kept))) = false := ff fun q => hn (.inl (.inl (.inl q)))
    have n2 : TL kept j (opp i) = false := ff fun q => hn (.inl (.inl (.inr q)))
    have n3 : TL kept i (opp i) = false := ff fun q => hn (.inl (.inr q))
    have n4 : TL kept j (opp j) = false := ff fun q => hn (.inr q)
    have hT : ∀ i m j, i < 6 → m < 6 → j < 6 → TL kept i m = true → TL kept m j = true → TL kept i j = true := fun i m j _ hm _ => TL_trans hm
    have hS : ∀ i j, i < 6 → j < 6 → TL kept i j = true → TL kept (opp j) (opp i) = true := fun i j hi hj => TL_skew1 hi hj
    have G0 : Good (TL kept) fun h => decide (h = opp i) || TL kept h (opp i) := by
      refine ⟨fun g h hg hh q1 q2 => ?_, fun g hg q => ?_⟩
      · simp only [Bool.or_eq_true, decide_eq_true_eq] at q1 ⊢
        rcases q1 with rfl | q1
        · exact .inr q2
        · exact .inr (hT _ _ _ hh hg hoi q2 q1)
      · simp only [Bool.or_eq_true, decide_eq_true_eq] at q
        refine ff fun q' => ?_
        simp only [Bool.or_eq_true, decide_eq_true_eq] at q'
        rcases q with rfl | q
        · rw [opp_opp hi] at q'
          rcases q' with q' | q'
          · exact opp_ne hi q'.symm
          · rw [n3] at q'; cases q'
        · rcases q' with q' | q'
          · have : g = i := by rw [← opp_opp hg, q', opp_opp hi]
            rw [this, n3] at q; cases q
          · have := hS _ _ hg hoi q
            rw [opp_opp hi] at this
            rw [hT _ _ _ hi (opp_lt hg) hoi this q'] at n3; cases n3
    have hs0 : (fun h => decide (h = opp i) || TL kept h (opp i)) (opp (opp j)) = false := by
      simp only [Bool.or_eq_false_iff, decide_eq_false_iff_not]
      rw [opp_opp hj]
      exact ⟨fun e => hij e.symm, n2⟩
    obtain ⟨S1, G1, s01, s1j⟩ := good_ext hT hS G0 hoj hs0 (by rw [opp_opp hj]; exact n4)
    have s1i : S1 (opp i) = true := s01 _ (by simp)
    have ext : ∀ (S : Nat → Bool), Good (TL kept) S → ∀ k, k < 3 → ∃ S', Good (TL kept) S' ∧ (∀ h, S h = true → S' h = true) ∧ (S' (2 * k) = true ∨ S' (2 * k + 1) = true) := fun S G k h3 => by
      have hopp : opp (2 * k) = 2 * k + 1 := by unfold opp; rw [if_pos (by omega)]
      have hopp' : opp (2 * k + 1) = 2 * k := by unfold opp; rw [if_neg (by omega)]; omega
      cases a : S (2 * k) with
      | true => exact ⟨S, G, fun _ h => h, .inl a⟩
      | false =>
        cases b : S (2 * k + 1) with
        | true => exact ⟨S, G, fun _ h => h, .inr b⟩
        | false =>
          have hb : bothB (leadsOf (callsOf kept)) k = false := ff fun q => by
            rw [List.any_eq_true.mpr ⟨k, List.mem_range.mpr h3, q⟩] at n1; cases n1
          rw [hbb k h3, Bool.and_eq_false_iff] at hb
          rcases hb with hb | hb
          · obtain ⟨S', G', q1, q2⟩ := good_ext hT hS G (g := 2 * k) (by omega) (by rw [hopp]; exact b) (by rw [hopp]; exact hb)
            exact ⟨S', G', q1, .inl q2⟩
          · obtain ⟨S', G', q1, q2⟩ := good_ext hT hS G (g := 2 * k + 1) (by omega) (by rw [hopp']; exact a) (by rw [hopp']; exact hb)
            exact ⟨S', G', q1, .inr q2⟩
    obtain ⟨S2, G2, s12, t0⟩ := ext S1 G1 0 (by decide)
    obtain ⟨S3, G3, s23, t1⟩ := ext S2 G2 1 (by decide)
    obtain ⟨S4, G4, s34, t2⟩ := ext S3 G3 2 (by decide)
    obtain ⟨x, hx, hxa⟩ := way_of G4 (t0.imp (fun h => s34 _ (s23 _ h)) fun h => s34 _ (s23 _ h)) (t1.imp (s34 _) (s34 _)) t2
    have hw : keepsB kept x = true := List.all_eq_true.mpr fun r hr' => by
      obtain ⟨hl, hlt⟩ := hk r hr'
      rcases hl with hl | hl
      · obtain ⟨a, rfl⟩ := len_one hl
        have ha := hlt a (List.mem_cons_self ..)
        simp only [List.any_cons, List.any_nil, Bool.or_false]
        cases q : heldB x a with
        | true => rfl
        | false =>
          have ho : S4 (opp a) = true := by rw [← hxa _ (opp_lt ha), held_opp hx ha, q]; rfl
          have := G4.cl (opp a) a (opp_lt ha) ha ho (TL_edge ha (EB_row hr' (by simp [rowEdges])))
          rw [← hxa a ha, q] at this; cases this
      · obtain ⟨a, b, rfl⟩ := len_two hl
        have ha := hlt a (List.mem_cons_self ..)
        have hb := hlt b (.tail _ (List.mem_cons_self ..))
        simp only [List.any_cons, List.any_nil, Bool.or_false]
        cases q : heldB x b with
        | true => simp
        | false =>
          have ho : S4 (opp b) = true := by rw [← hxa _ (opp_lt hb), held_opp hx hb, q]; rfl
          have := G4.cl (opp b) a (opp_lt hb) ha ho (TL_edge hb (EB_row hr' (by simp [rowEdges])))
          rw [← hxa a ha] at this; rw [this]; rfl
    have f1 : heldB x i = false := by
      have := hxa _ hoi
      rw [s34 _ (s23 _ (s12 _ s1i)), held_opp hx hi] at this
      cases q : heldB x i with
      | false => rfl
      | true => rw [q] at this; cases this
    have f2 : heldB x j = false := by
      have := hxa _ hoj
      rw [s34 _ (s23 _ (s12 _ s1j)), held_opp hx hj] at this
      cases q : heldB x j with
      | false => rfl
      | true => rw [q] at this; cases this
    rcases hall x hx hw with h | h
    · rw [f1] at h; cases h
    · rw [f2] at h; cases h
/-! the calls booked, added up -/
theorem same_sgk {a b : Nat} (ha : a < 6) (hb : b < 6) : PySem.Spec.same (.str (sgk a)) (.str (sgk b)) = decide (a = b) := by
  have h : ∀ a b : Fin 6, PySem.Spec.same (.str (sgk a)) (.str (sgk b)) = decide (a = b) := by decide +kernel
  rw [h ⟨a, ha⟩ ⟨b, hb⟩]
  simp [Fin.ext_iff]
theorem row_sum {r : List Nat} {i : Nat} {n : Int} (hi : i < 6) (h : (r.length = 1 ∨ r.length = 2) ∧ ∀ k ∈ r, k < 6) : ((rowEdges r).map fun e => if i = e.1 then n else 0).sum = n * countIn (.str (sgk i)) ((r.map sgk).map PyData.str) := by
  obtain ⟨hl, hlt⟩ := h
  rcases hl with hl | hl
  · obtain ⟨a, rfl⟩ := len_one hl
    have ha := hlt a (List.mem_cons_self ..)
    simp only [rowEdges, List.map_cons, List.map_nil, List.sum_cons, List.sum_nil, PySem.Spec.countIn, same_sgk ha hi]
    by_cases e : i = a
    · subst e; simp
    · simp [e, Ne.symm e]
  · obtain ⟨a, b, rfl⟩ := len_two hl
    have ha := hlt a (List.mem_cons_self ..)
    have hb := hlt b (.tail _ (List.mem_cons_self ..))
    simp only [rowEdges, List.map_cons, List.map_nil, List.sum_cons, List.sum_nil, PySem.Spec.countIn, same_sgk ha hi, same_sgk hb hi]
    by_cases e : i = a
    · subst e
      by_cases e : i = b
      · subst e; simp; omega
      · simp [e, Ne.symm e]
    · by_cases e2 : i = b
      · subst e2; simp [e, Ne.symm e]
      · simp [e, Ne.symm e, e2, Ne.symm e2]
theorem cSum_eq {i : Nat} (hi : i < 6) : ∀ (rows : List (List Nat)) (n : Nat), (∀ r ∈ rows, (r.length = 1 ∨ r.length = 2) ∧ ∀ k ∈ r, k < 6) →
    cSum i n rows = ((List.range rows.length).map fun k => (((n + k : Nat) : Int) + 1) * countIn (.str (sgk i)) (((rows.getD k []).map sgk).map PyData.str)).sum
  | [], n, _ => rfl
  | r :: rs, n, h => by
    have t : ((List.range rs.length).map fun k => (((n + 1 + k : Nat) : Int) + 1) * countIn (.str (sgk i)) (((rs.getD k []).map sgk).map PyData.str)).sum = (((List.range rs.length).map Nat.succ).map fun k => (((n + k : Nat) : Int) + 1) * countIn (.str (sgk i)) ((((r :: rs).getD k []).map sgk).map PyData.str)).sum := by
      rw [List.map_map]
      congr 1
      refine List.map_congr_left fun k _ => ?_
      have e : n + 1 + k = n + (k + 1) := by omega
      show (((n + 1 + k : Nat) : Int) + 1) * _ = (((n + (k + 1) : Nat) : Int) + 1) * _
      rw [e]
      rfl
    rw [cSum, cSum_eq hi rs (n + 1) fun r' hr' => h r' (List.mem_cons_of_mem _ hr'), row_sum hi (h r (List.mem_cons_self ..)), List.length_cons, List.range_succ_eq_map, List.map_cons, List.sum_cons, t]
    rfl
theorem law_tot {kept : List (List Nat)} (hk : ∀ r ∈ kept, (r.length = 1 ∨ r.length = 2) ∧ ∀ k ∈ r, k < 6) {k : Nat} (h6 : k < 6) :
    tot (callsOf kept k) = ((List.range kept.length).map fun i => cntAt kept k i).sum := by
  have h := (go_has (i := k) (x := sgk 0) kept 0 (fun _ => []) fun _ => List.nodup_nil).2.2
  rw [show callsOf kept k = callsGo 0 kept (fun _ => []) k from rfl, h, cSum_eq h6 kept 0 hk, show tot [] = 0 from rfl, Int.zero_add]
  congr 1
  refine List.map_congr_left fun i _ => ?_
  unfold cntAt
  rw [Nat.zero_add]
end

section
theorem fr_any {P : Prop} {h₀ h : Heap} {L : Addr} {m : Str → Option Value} (F : Fr h₀ L h m) (k : ∀ m', Fr h₀ L h m' → P) : P := k m F
theorem cell_any {P : Prop} {o : Obj} {x : Option Value} (h : o.data = .cell x) (k : ∀ y, o.data = .cell y → P) : P := k x h
end
section
end
section
theorem fr_ref {h₀ h : Heap} {L a : Addr} {m : Str → Option Value} (_F : Fr h₀ L h m) (x : Str) (e : m x = some (.ref a)) : ∃ b, b = a ∧ m x = some (.ref b) := ⟨a, rfl, e⟩
theorem due_oks {xs : List Int} : ∀ d ∈ xs.map (fun x => dueOf (placesOf x)), kqdOk 8 d = true := fun d hd => by
  obtain ⟨x, _, rfl⟩ := List.mem_map.mp hd
  exact due_ok (places_shp x)
end
noncomputable def Mark (n : Nat) : Prop := n = n
section
noncomputable def ApC (ks R : Led) : Prop := ∀ p ∈ R, ∀ k ∈ ks, @Ne Nat p.1 k.1
theorem apc_open {k5 k4 k3 k2 k1 : Addr × Obj} {R : Led} (h : ApC [k5, k4, k3, k2, k1] R) : (∀ p ∈ R, @Ne Nat p.1 k5.1) ∧ (∀ p ∈ R, @Ne Nat p.1 k4.1) ∧ (∀ p ∈ R, @Ne Nat p.1 k3.1) ∧ (∀ p ∈ R, @Ne Nat p.1 k2.1) ∧ (∀ p ∈ R, @Ne Nat p.1 k1.1) :=
  ⟨fun p hp => h p hp _ (by simp), fun p hp => h p hp _ (by simp), fun p hp => h p hp _ (by simp), fun p hp => h p hp _ (by simp), fun p hp => h p hp _ (by simp)⟩
theorem pack {h₀ h : Heap} {L : Addr} {X R : Led} {k5 k4 k3 k2 k1 : Addr × Obj} (N : News h₀ L h (X ++ (k5 :: k4 :: k3 :: k2 :: k1 :: R))) (hR : ApC [k5, k4, k3, k2, k1] R) (hX : ApC [k5, k4, k3, k2, k1] X) :
    ∃ R', News h₀ L h (k5 :: k4 :: k3 :: k2 :: k1 :: R') ∧ ApC [k5, k4, k3, k2, k1] R' ∧ (∀ p ∈ R, p ∈ R') ∧ (∀ p ∈ X, p ∈ R') := by
  refine ⟨X ++ R, fun p hp => N p ?_, fun p hp => ?_, fun p hp => List.mem_append_right _ hp, fun p hp => List.mem_append_left _ hp⟩
  · simp only [List.mem_cons, List.mem_append] at hp ⊢
    rcases hp with rfl | rfl | rfl | rfl | rfl | hp | hp
    · exact .inr (.inl rfl)
    · exact .inr (.inr (.inl rfl))
    · exact .inr (.inr (.inr (.inl rfl)))
    · exact .inr (.inr (.inr (.inr (.inl rfl))))
    · exact .inr (.inr (.inr (.inr (.inr (.inl rfl)))))
    · exact .inl hp
    · exact .inr (.inr (.inr (.inr (.inr (.inr hp)))))
  · rcases List.mem_append.mp hp with hp | hp
    · exact hX p hp
    · exact hR p hp
structure LawR1 (R : Led) (Dc D2 : Addr) (ys ys2 : List Value) (xs : List Int) : Prop where
  c1 : (Dc, LCg.lst ys) ∈ R
  d1 : DatAll R ys (xs.map fun x => plD (placesOf x))
  c2 : (D2, LCg.lst ys2) ∈ R
  d2 : DatAll R ys2 (xs.map fun x => dueOf (placesOf x))
theorem LawR1.mono {R R' : Led} {Dc D2 : Addr} {ys ys2 : List Value} {xs : List Int} (h : LawR1 R Dc D2 ys ys2 xs) (k : ∀ p ∈ R, p ∈ R') : LawR1 R' Dc D2 ys ys2 xs := ⟨k _ h.c1, DatAll.mono k h.d1, k _ h.c2, DatAll.mono k h.d2⟩
theorem pack1 {h₀ h : Heap} {L Dc D2 : Addr} {ys ys2 : List Value} {xs : List Int} {X own own2 : Led} {r k5 k4 k3 k2 k1 : Addr × Obj} (N : News h₀ L h (X ++ (D2, LCg.lst ys2) :: (own2 ++ (Dc, LCg.lst ys) :: (own ++ [r, k5, k4, k3, k2, k1]))))
    (hys : DatAll own ys (xs.map fun x => plD (placesOf x))) (hys2 : DatAll own2 ys2 (xs.map fun x => dueOf (placesOf x)))
    (h1 : ∀ p ∈ own, ∀ q ∈ [r, k5, k4, k3, k2, k1], @Ne Nat q.1 p.1) (h2 : ∀ p ∈ own2, ∀ q ∈ (Dc, LCg.lst ys) :: (own ++ [r, k5, k4, k3, k2, k1]), @Ne Nat q.1 p.1) (h3 : ∀ p ∈ own ++ [r, k5, k4, k3, k2, k1], @Ne Nat p.1 Dc)
    (h4 : ∀ p ∈ own2 ++ (Dc, LCg.lst ys) :: (own ++ [r, k5, k4, k3, k2, k1]), @Ne Nat p.1 D2) (h5 : ∀ q ∈ [k5, k4, k3, k2, k1], @Ne Nat q.1 r.1) :
    ∃ R, News h₀ L h (k5 :: k4 :: k3 :: k2 :: k1 :: R) ∧ ApC [k5, k4, k3, k2, k1] R ∧ LawR1 R Dc D2 ys ys2 xs := by
  have hk : ∀ k ∈ [k5, k4, k3, k2, k1], k ∈ [r, k5, k4, k3, k2, k1] := fun k hk => List.mem_cons_of_mem _ hk
  refine ⟨(D2, LCg.lst ys2) :: (own2 ++ (Dc, LCg.lst ys) :: (own ++ [r])), fun p hp => N p ?_, fun p hp k hk' => ?_, ⟨by simp, DatAll.mono (fun p hp => by simp [hp]) hys, by simp, DatAll.mono (fun p hp => by simp [hp]) hys2⟩⟩
  · simp only [List.mem_cons, List.mem_append, List.not_mem_nil, or_false] at hp ⊢
    rcases hp with rfl | rfl | rfl | rfl | rfl | rfl | hp | rfl | hp | rfl <;> simp [*]
  · rcases List.mem_cons.mp hp with rfl | hp
    · exact (h4 k (List.mem_append_right _ (List.mem_cons_of_mem _ (List.mem_append_right _ (hk k hk'))))).symm
    · rcases List.mem_append.mp hp with hp | hp
      · exact (h2 p hp k (List.mem_cons_of_mem _ (List.mem_append_right _ (hk k hk')))).symm
      · rcases List.mem_cons.mp hp with rfl | hp
        · exact (h3 k (List.mem_append_right _ (hk k hk'))).symm
        · rcases List.mem_append.mp hp with hp | hp
          · exact (h1 p hp k (hk k hk')).symm
          · rw [List.mem_singleton.mp hp]; exact (h5 k hk').symm
theorem kept_snoc (l : List (List Pl)) (ps : List Pl) : keptOf (l ++ [ps]) = keptOf l ++ (if (signsOf ps).isEmpty then [] else [rowOf ps]) := by
  unfold keptOf
  rw [List.filter_append, List.map_append]
  congr 1
  cases h : (signsOf ps).isEmpty <;> simp [h]
end
section
theorem apc_new {D : Addr} {o : Obj} {own R ks : Led} (h1 : ∀ p ∈ own ++ (ks ++ R), @Ne Nat p.1 D) (h2 : ∀ p ∈ own, ∀ q ∈ ks ++ R, @Ne Nat q.1 p.1) : ApC ks ((D, o) :: own) := fun p hp k hk => by
  rcases List.mem_cons.mp hp with rfl | hp
  · exact (h1 k (List.mem_append_right _ (List.mem_append_left _ hk))).symm
  · exact (h2 p hp k (List.mem_append_left _ hk)).symm
end
section
theorem apc_mk {R : Led} {a5 a4 a3 a2 a1 : Addr} {o5 o4 o3 o2 o1 : Obj} (q5 : ∀ p ∈ R, @Ne Nat p.1 a5) (q4 : ∀ p ∈ R, @Ne Nat p.1 a4) (q3 : ∀ p ∈ R, @Ne Nat p.1 a3) (q2 : ∀ p ∈ R, @Ne Nat p.1 a2) (q1 : ∀ p ∈ R, @Ne Nat p.1 a1) :
    ApC [(a5, o5), (a4, o4), (a3, o3), (a2, o2), (a1, o1)] R := fun p hp k hk => by
  simp only [List.mem_cons, List.not_mem_nil, or_false] at hk
  rcases hk with rfl | rfl | rfl | rfl | rfl
  · exact q5 p hp
  · exact q4 p hp
  · exact q3 p hp
  · exact q2 p hp
  · exact q1 p hp
end
section
theorem prD_ok {r : List Nat} (h : ∀ k ∈ r, k < 6) : ∀ d ∈ r.map prD, kqdOk 8 d = true := fun d hd => by
  obtain ⟨k, hk, rfl⟩ := List.mem_map.mp hd
  have h1 := h k hk
  refine List.all_eq_true.mpr fun e he => ?_
  simp only [List.mem_cons, List.not_mem_nil, or_false] at he
  rcases he with rfl | rfl
  · exact okT (sgk_tx h1)
  · exact okT (sgk_tx (opp_lt h1))
theorem row_open {led : Led} {v : Value} {r : List Nat} (h : DatIn led v (rowD r)) : ∃ a vs n, v = .ref a ∧ (a, listOf (List.toArray vs) n) ∈ led ∧ DatAll led vs (r.map prD) := by
  unfold rowD at h
  cases h with
  | list hm ha => exact ⟨_, _, _, rfl, hm, ha⟩
theorem apc_off {ks R new : Led} (h : ∀ q ∈ ks ++ R, ∀ p ∈ new, @Ne Nat q.1 p.1) : ApC ks new := fun p hp k hk => (h k (List.mem_append_left _ hk) p hp).symm
theorem edge_K6 {f : Nat → AL} {g o : Nat} {k : Int} (hf : ∀ i, i < 6 → K6 (f i)) (ho : o < 6) (hg : g < 6) : ∀ i, i < 6 → K6 (edge f g o k i) := fun i hi => by
  unfold edge
  split
  · exact (hf g hg).addC fun p hp => by rw [List.mem_singleton.mp hp]; exact ⟨opp o, opp_lt ho, rfl⟩
  · exact hf i hi
theorem step_K6 {r : List Nat} {k : Int} (hr : ∀ a ∈ r, a < 6) {f : Nat → AL} (hf : ∀ i, i < 6 → K6 (f i)) : ∀ i, i < 6 → K6 (callsStep f k r i) := by
  unfold callsStep
  have h := rowEdges_lt hr
  generalize rowEdges r = es at h ⊢
  induction es generalizing f with
  | nil => exact hf
  | cons e es ih =>
    exact ih (hf := edge_K6 hf (h e (List.mem_cons_self ..)).2 (h e (List.mem_cons_self ..)).1) (h := fun e' he' => h e' (List.mem_cons_of_mem _ he'))
theorem go_K6 : ∀ (rows : List (List Nat)) (n : Nat) (f : Nat → AL), (∀ r ∈ rows, ∀ a ∈ r, a < 6) → (∀ i, i < 6 → K6 (f i)) → ∀ i, i < 6 → K6 (callsGo n rows f i)
  | [], _, _, _, hf => hf
  | r :: rs, n, f, h, hf => go_K6 rs (n + 1) _ (fun r' hr' => h r' (List.mem_cons_of_mem _ hr')) (step_K6 (h r (List.mem_cons_self ..)) hf)
theorem calls_K6 {rows : List (List Nat)} (h : ∀ r ∈ rows, ∀ a ∈ r, a < 6) : ∀ i, i < 6 → K6 (callsOf rows i) := go_K6 rows 0 _ h fun _ _ => .nil
theorem kept_len (pss : List (List Pl)) : (keptOf pss).length ≤ pss.length := by
  unfold keptOf
  rw [List.length_map]
  exact List.length_filter_le _ _
end
section
theorem fam_six {w : World} {P : Addr → Prop} {ol : Obj} {inner : Led} {f : Nat → AL} (h : Fam w P ol inner f) : ∃ kvs, ol.IsDictOf (PySem.strKind PR w) kvs ∧ kvs.length = 6 := by
  obtain ⟨kvs, h1, h2, _⟩ := h
  exact ⟨kvs, h1, h2⟩
theorem dict_ne {w : World} {A : Around} {E : Value → Shared → Prop} {s : Shared} {h₀ : Heap} {L a b : Addr} {news : Led} {oa ob : Obj} {Q : Value → Shared → Prop} {kvs : List (Str × Value)} (N : News h₀ L s.heap news) (ma : (a, oa) ∈ news) (mb : (b, ob) ∈ news) (ha : (a == sysModules) = false) (hb : (b == sysModules) = false)
    (da : oa.IsDictOf (PySem.strKind PR w) kvs) (hl : kvs.length = 6) (db : ob.IsDictOf (PySem.strKind PR w) []) (hu : A.units < cLine) (h : Q (.bool false) s) : wpAny (model PR w) A (compareOp .Eq (.ref a) (.ref b)) Q E s := by
  refine keq_eq (r := false) ha hb (kda_dict N ma da) (kda_dict N mb db) hu (fun e => ?_) ?_
  · rw [hl] at e; cases e
  · rw [hl]; exact h
end
section
open LCg LCt
variable {prog : Program} {w : World} {A : Around} {E : Value → Shared → Prop} {s : Shared} {h₀ : Heap} {L : Addr} {m : Str → Option Value} {env : Env}
/-- a range of any step as the source of a list comprehension with a test -/
inductive SrcStep (prog : Program) (w : World) (A : Around) (h₀ : Heap) (L : Addr) (m : Str → Option Value) (env : Env) (ct elt : Expr) (x : Str) (scope : Scope) (cl : List (Str × Addr)) (Fin : Shared → List Value → Led → Prop) (xv : Value) (s₁ : Shared) : Prop
  | mk (r) (a) (b) (c) (t) (u) (v) (n) (news) (_ : xv = .ref r) (_ : A.handled = none) (_ : Fr h₀ L s₁.heap m) (_ : News h₀ L s₁.heap news) (_ : IsRange s₁.heap r a b c t u v) (_ : Builtin.Range.small a b c = true) (_ : Builtin.Range.rangeSize a b c = ((n : Nat) : Int)) (_ : n ≤ sizeLine) (_ : ∀ s₂ : Shared, (∃ h, s₂ = { s₁ with heap := h }) → CompRestT prog w A h₀ L m env ct elt x scope cl s₂ (fun _ => True) (fun i v => ∃ t, v = .int (a + (i : Int) * c) t) (Fin s₂) n 0 [] news) : SrcStep prog w A h₀ L m env ct elt x scope cl Fin xv s₁
theorem SrcStep.intro {ct elt : Expr} {x : Str} {scope : Scope} {cl : List (Str × Addr)} {Fin : Shared → List Value → Led → Prop} {r : Addr} {a b c : Int} {t u v : Tok} (n : Nat) {news : Led} {s₁ : Shared} (hh : A.handled = none) (F : Fr h₀ L s₁.heap m) (N : News h₀ L s₁.heap news)
    (hr : IsRange s₁.heap r a b c t u v) (hsm : Builtin.Range.small a b c = true) (hn : Builtin.Range.rangeSize a b c = ((n : Nat) : Int)) (hsz : n ≤ sizeLine)
    (h : ∀ g, CompRestT prog w A h₀ L m env ct elt x scope cl { s₁ with heap := g } (fun _ => True) (fun i v => ∃ t, v = .int (a + (i : Int) * c) t) (Fin { s₁ with heap := g }) n 0 [] news) :
    SrcStep prog w A h₀ L m env ct elt x scope cl Fin (.ref r) s₁ := ⟨r, a, b, c, t, u, v, n, news, rfl, hh, F, N, hr, hsm, hn, hsz, fun _ ⟨g, e⟩ => e ▸ h g⟩
theorem ListComp_R {ct elt iter : Expr} {x : Str} {px : Pos} {scope : Scope} {cl : List (Str × Addr)} {pos : Pos} {Q : Value → Shared → Prop} (F₀ : Fr h₀ L s.heap m)
    (hclos : closureFor scope env = pure cl) (hcell : ∀ y ∈ scope.names, y.2 ≠ .cell) (hkind : scope.kind = .function)
    (hnames : ∀ y ∈ scope.names, y.2 = .local → scope.names.lookup y.1 = some .local) (hx : scope.names.lookup x = some .local)
    (h : wpAny (model prog w) A (eval iter env) (SrcStep prog w A h₀ L m env ct elt x scope cl (fun s₂ => FinE h₀ L m s₂ Q)) E s)
    (hs : ∀ x, foldedSetIterable iter env x = pure x := by intro _; rfl) :
    wpAny (model prog w) A (eval (.ListComp elt [⟨.Name x px, iter, [ct], 0⟩] scope pos) env) Q E s := by
  rw [eval_ListComp]
  refine wpAny_comprehension_free (use := none) rfl hs hclos hkind hnames (wpAny_mono h (fun xv s₁ h₁ => ?_) fun _ _ e => e)
  refine foldP fun G hG => ?_
  obtain ⟨r, a, b, c, t, u, v, n, news, zr1, hh, F, N, hr, hsm, hn, hsz, R⟩ := h₁
  refine hG ?_
  clear hG G
  subst zr1
  refine wpAny_pyIter_range hr hsm ?_
  refine block_T (Walks.range hh s₁.heap.objs.size a c n) hsz (fun i h st => ⟨_, st⟩) (fun i h h' o nw st e e' _ _ _ => ?_) hcell hkind hx (by show IsRangeIter _ _ _ _ _; rw [hn]; simpa using Heap.get?_push_size _ rfl) (fun b hb => ?_)
    (F.keeps fun _ _ e => Heap.get?_push_of_some _ e) (N.grown fun _ _ e => Heap.get?_push_of_some _ e) (Nat.ne_of_lt F.ns.lt) (next_is_new F) (fun p hp => Nat.ne_of_lt (Heap.lt_size (N p hp).1)) trivial (R _ ⟨_, rfl⟩) ?_
  · have st' : h.get? s₁.heap.objs.size = some _ := st
    show h'.get? s₁.heap.objs.size = some _
    rw [e', ← e]; exact st'
  · rw [List.mem_singleton.mp hb]
    show s₁.heap.objs.size < (s₁.heap.push _).objs.size
    rw [Heap.size_push]; exact Nat.lt_succ_self _
  · intro D C h tk m' ys news' F' N' o1 hn hC₀ hD₀ hCL hDL hCD offC fin
    refine ⟨m', hn, fun h'' hs'' => fin D h'' tk (F'.change hs'' hCL hC₀) (fun p hp => ?_) o1⟩
    refine ⟨hs''.extBut _ _ ?_ (N' p hp).1, (N' p hp).2⟩
    rcases List.mem_cons.mp hp with rfl | hp
    · exact Ne.symm hCD
    · exact offC p hp
end
theorem lst_open {led : Led} {v : Value} {ds : List Dat} (h : DatIn led v (.list ds)) : ∃ a vs n, v = .ref a ∧ (a, listOf (List.toArray vs) n) ∈ led ∧ DatAll led vs ds := by
  cases h with
  | list hm ha => exact ⟨_, _, _, rfl, hm, ha⟩
section
end
theorem sgk_at1 {prog : Program} {w : World} {A : Around} {E : Value → Shared → Prop} {s : Shared} {value slice : PySem.Expr} {t u : Tok} {Q : Value → Shared → Prop} {k : Nat} (hk : k + 1 < 6) (h : ∀ u, Q (.str (sgk (k + 1)) u) { s with toks := s.toks + 1 })
    (hs : subscripted slice false (.str (Str.ofString "aAbBdD") t) (.int ((k : Int) + 1) u) = operate [.str (Str.ofString "aAbBdD") t, .int ((k : Int) + 1) u] (getItem (.str (Str.ofString "aAbBdD") t) (.int ((k : Int) + 1) u)) := by with_unfolding_all rfl)
    (ht : ∀ r, letTemporaryGo value (.str (Str.ofString "aAbBdD") t) r = pure () := by intro _; with_unfolding_all rfl) :
    wpAny (model prog w) A (subscriptTail value slice (.str (Str.ofString "aAbBdD") t) (.int ((k : Int) + 1) u)) Q E s := sgk_at (k := k + 1) rfl hk h hs ht
theorem kdp_inB {prog : Program} {w : World} {A : Around} {E : Value → Shared → Prop} {s : Shared} {d : Addr} {c : AL} {k : Str} {tk : Tok} {b : Bool} {Q : Value → Shared → Prop} (T : StrTab prog w s.heap d (kdpD c) := by k_tabat) (e : kdpHas c k = b := by assumption) (h : Q (.bool b) { s with toks := s.toks + 1 }) :
    wpAny (model prog w) A (compareOp .In (.str k tk) (.ref d)) Q E s := kdp_in T (by rw [e]; exact h)
theorem any_snoc (f : Nat → AL) (i : Nat) : (List.range (i + 1)).any (bothB f) = ((List.range i).any (bothB f) || bothB f i) := by
  rw [List.range_succ, List.any_append]
  simp
section
end
section
variable {prog : Program} {w : World} {A : Around} {E : Value → Shared → Prop} {s : Shared} {env : Env} {h₀ : Heap} {target : Expr} {body : List Stmt} {Q : Flow → Shared → Prop}
/-- a loop over range(i₀, n) -/
theorem iter_range_from {r : Addr} {n i₀ : Nat} {a b : Int} {t u v : Tok} {m₀ : Str → Option Value} {news : Led} (J : Led → (Str → Option Value) → Nat → (Str → Option Value) → Led → Prop) (F : Fr h₀ env.locals s.heap m₀) (N : News h₀ env.locals s.heap news)
    (hh : A.handled = none) (hr : IsRange s.heap r a b 1 t u v) (ha : a = (i₀ : Int)) (hb : b = (n : Int)) (hin : i₀ ≤ n) (hz : n ≤ 2 ^ 24) (j : J news m₀ i₀ m₀ news)
    (turn : ∀ i m nw, i < n → J news m₀ i m nw → ∀ I t h tk o, (∀ p ∈ news, p.1 < I) → o.cls = .type "range_iterator" → Fr h₀ env.locals h m → News h₀ env.locals h ((I, o) :: nw) →
      wpAny (model prog w) A (assign target env (.int (i : Int) t)) (fun _ s₂ => wpAny (model prog w) A (execs body env) (UnrPostW h₀ env.locals { s with heap := h, toks := tk } [(I, o)] (fun m' n' => SubL [] n' ∧ J news m₀ (i + 1) m' n') Q) E s₂) E { s with heap := h, toks := tk })
    (done : ∀ m nw, J news m₀ n m nw → ∀ h tk, Fr h₀ env.locals h m → News h₀ env.locals h nw → Q .next { s with heap := h, toks := tk }) :
    wpAny (model prog w) A (pyIter (.ref r)) (fun it s₂ => TurnsAt prog w A h₀ env target body Q E it s₂) E s := by
  subst ha
  subst hb
  have e0 : Builtin.Range.rangeSize (i₀ : Int) (n : Int) 1 = ((n - i₀ : Nat) : Int) := by rw [rangeSize_one]; split <;> omega
  have hsm : Builtin.Range.small (i₀ : Int) (n : Int) 1 = true := by
    unfold Builtin.Range.small
    rw [e0]
    simp [Builtin.Range.rangeFitsLong]
    omega
  refine wpAny_pyIter_range hr hsm ?_
  rw [e0]
  have lt0 : ∀ p ∈ news, p.1 < s.heap.objs.size := fun p hp => Heap.lt_size (N p hp).1
  refine ktu_core (s := s) (tk0 := s.toks) (keep := []) (ws := [(s.heap.objs.size, "range_iterator")]) (xs := rangeItms i₀ (n - i₀)) (KTurns.ofWalks (Walks.range hh s.heap.objs.size (i₀ : Int) 1 (n - i₀)).bound fun i v s Q E st q => letGo_range st q) (by rw [rangeItms_length]) (fun i v h hp => ?_) (fun i h st => ?_) (fun b hb => ?_) (fun b hb => by simpa using hb) (fun b hb => .inl (by simpa using hb)) ?_ (fun p hp hI => ?_) ?_ (F.push _) (fun p hp => ⟨Heap.get?_push_of_some _ (N p hp).1, (N p hp).2⟩) trivial (range_inv (J news m₀) (fun i m nw hi x t h tk o ho F N => turn i m nw hi x _ t h tk o lt0 ho F N) done (n - i₀) i₀ m₀ news (by omega) j)
  · obtain ⟨hi, t, rfl⟩ := hp
    exact ⟨_, rangeItms_get (n - i₀) i₀ i hi, t, by simp⟩
  · exact ⟨[(s.heap.objs.size, _)], ⟨⟨rfl, rfl⟩, trivial⟩, fun p hp => by rw [List.mem_singleton.mp hp]; exact st⟩
  · have hb' : b = s.heap.objs.size := by simpa using hb
    rw [hb']
    exact ⟨List.mem_cons_self .., next_is_new F⟩
  · intro hI
    exact absurd F.ns.lt (List.mem_singleton.mp hI ▸ Nat.lt_irrefl _)
  · exact absurd (Heap.lt_size (N p hp).1) ((List.mem_singleton.mp hI) ▸ Nat.lt_irrefl _)
  · simpa using Heap.get?_push_size _ rfl
end
inductive JLaw (news₀ : Led) (m₀ : Str → Option Value) (z1 : Nat) (m : Str → Option Value) (nw : Led) : Prop
  | mk (q : Str → Option Value) (a5 a4 : Addr) (p5 p4 o5 o4 : Obj) (x5 x4 : Option Value) (r : Led) (_ : news₀ = (a5, p5) :: (a4, p4) :: r) (_ : m = (fun y => if y = Str.ofString "told" then q y else if y = Str.ofString "off" then q y else if y = Str.ofString "away" then q y else if y = Str.ofString "j" then q y else if y = Str.ofString "i" then q y else m₀ y)) (_ : nw = (a5, o5) :: (a4, o4) :: r) (_ : o5.data = .cell x5) (_ : o4.data = .cell x4) : JLaw news₀ m₀ z1 m nw
theorem JLaw.on {P : (Str → Option Value) → Led → Prop} {a5 a4 : Addr} {p5 p4 : Obj} {r : Led} {m₀ m : Str → Option Value} {n : Nat} {nw : Led} (h : JLaw ((a5, p5) :: (a4, p4) :: r) m₀ n m nw)
    (k : ∀ (q : Str → Option Value) (o5 o4 : Obj) (x5 x4 : Option Value), o5.data = .cell x5 → o4.data = .cell x4 → P (fun y => if y = Str.ofString "told" then q y else if y = Str.ofString "off" then q y else if y = Str.ofString "away" then q y else if y = Str.ofString "j" then q y else if y = Str.ofString "i" then q y else m₀ y) ((a5, o5) :: (a4, o4) :: r)) : P m nw := by
  obtain ⟨q, a5', a4', p5', p4', o5, o4, x5, x4, r', hn, rfl, rfl, h5, h4⟩ := h
  injection hn with e1 e2
  injection e1 with e3 e4
  injection e2 with e5 e6
  injection e5 with e7 e8
  subst e3 e7 e6
  exact k q o5 o4 x5 x4 h5 h4
theorem names5 {m₀ : Str → Option Value} (a b c d e : Str) : m₀ = (fun y => if y = a then m₀ y else if y = b then m₀ y else if y = c then m₀ y else if y = d then m₀ y else if y = e then m₀ y else m₀ y) := by
  funext y; simp
section
end
section
inductive JLawI (news₀ : Led) (m₀ : Str → Option Value) (z1 : Nat) (m : Str → Option Value) (nw : Led) : Prop
  | mk (q : Str → Option Value) (I a5 a4 : Addr) (oI p5 p4 o5 o4 : Obj) (x5 x4 : Option Value) (r : Led) (_ : news₀ = (I, oI) :: (a5, p5) :: (a4, p4) :: r) (_ : m = (fun y => if y = Str.ofString "told" then q y else if y = Str.ofString "off" then q y else if y = Str.ofString "away" then q y else if y = Str.ofString "j" then q y else m₀ y)) (_ : nw = (I, oI) :: (a5, o5) :: (a4, o4) :: r) (_ : o5.data = .cell x5) (_ : o4.data = .cell x4) : JLawI news₀ m₀ z1 m nw
theorem JLawI.on {P : (Str → Option Value) → Led → Prop} {I a5 a4 : Addr} {oI p5 p4 : Obj} {r : Led} {m₀ m : Str → Option Value} {n : Nat} {nw : Led} (h : JLawI ((I, oI) :: (a5, p5) :: (a4, p4) :: r) m₀ n m nw)
    (k : ∀ (q : Str → Option Value) (o5 o4 : Obj) (x5 x4 : Option Value), o5.data = .cell x5 → o4.data = .cell x4 → P (fun y => if y = Str.ofString "told" then q y else if y = Str.ofString "off" then q y else if y = Str.ofString "away" then q y else if y = Str.ofString "j" then q y else m₀ y) ((I, oI) :: (a5, o5) :: (a4, o4) :: r)) : P m nw := by
  obtain ⟨q, I', a5', a4', oI', p5', p4', o5, o4, x5, x4, r', hn, rfl, rfl, h5, h4⟩ := h
  injection hn with e1 e2
  injection e1 with e3 e4
  injection e2 with e5 e6
  injection e5 with e7 e8
  injection e6 with e9 e10
  injection e9 with e11 e12
  subst e3 e4 e7 e11 e10
  exact k q o5 o4 x5 x4 h5 h4
theorem names4j {m₀ : Str → Option Value} (a b c d : Str) : m₀ = (fun y => if y = a then m₀ y else if y = b then m₀ y else if y = c then m₀ y else if y = d then m₀ y else m₀ y) := by
  funext y; simp
theorem ov5 {M m₀ : Str → Option Value} {a b c d e : Str} (h : ∀ y, y ≠ a → y ≠ b → y ≠ c → y ≠ d → y ≠ e → M y = m₀ y) : M = fun y => if y = a then M y else if y = b then M y else if y = c then M y else if y = d then M y else if y = e then M y else m₀ y := by
  funext y
  by_cases h1 : y = a
  · rw [if_pos h1]
  by_cases h2 : y = b
  · rw [if_neg h1, if_pos h2]
  by_cases h3 : y = c
  · rw [if_neg h1, if_neg h2, if_pos h3]
  by_cases h4 : y = d
  · rw [if_neg h1, if_neg h2, if_neg h3, if_pos h4]
  by_cases h5 : y = e
  · rw [if_neg h1, if_neg h2, if_neg h3, if_neg h4, if_pos h5]
  rw [if_neg h1, if_neg h2, if_neg h3, if_neg h4, if_neg h5]
  exact h y h1 h2 h3 h4 h5
theorem ov4 {M m₀ : Str → Option Value} {a b c d : Str} (h : ∀ y, y ≠ a → y ≠ b → y ≠ c → y ≠ d → M y = m₀ y) : M = fun y => if y = a then M y else if y = b then M y else if y = c then M y else if y = d then M y else m₀ y := by
  funext y
  by_cases h1 : y = a
  · rw [if_pos h1]
  by_cases h2 : y = b
  · rw [if_neg h1, if_pos h2]
  by_cases h3 : y = c
  · rw [if_neg h1, if_neg h2, if_pos h3]
  by_cases h4 : y = d
  · rw [if_neg h1, if_neg h2, if_neg h3, if_pos h4]
  rw [if_neg h1, if_neg h2, if_neg h3, if_neg h4]
  exact h y h1 h2 h3 h4
theorem unr_end {h₀ h' : Heap} {L I : Addr} {oI : Obj} {s₁ : Shared} {m' : Str → Option Value} {all new' : Led} {tk : Nat} {rest : (Str → Option Value) → Led → Prop} (F : Fr h₀ L h' m') (N : News h₀ L h' all) (h1 : ∀ p ∈ (I, oI) :: new', p ∈ all)
    (h2 : ∀ p ∈ new', @LT.lt Nat _ p.1 I) (J : rest m' new') : UnrEndW h₀ L s₁ [(I, oI)] rest { s₁ with heap := h', toks := tk } :=
  ⟨h', tk, m', new', rfl, F, fun p hp => N p (h1 p hp), fun p hp q hq e => by
    rw [List.mem_singleton.mp hq] at e
    exact Nat.ne_of_lt (h2 p hp) e, J⟩
theorem lt_two {I : Nat} {a5 a4 : Addr} {p5 p4 o5 o4 : Obj} {r : Led} (h : ∀ p ∈ (a5, p5) :: (a4, p4) :: r, @LT.lt Nat _ p.1 I) : ∀ p ∈ (a5, o5) :: (a4, o4) :: r, @LT.lt Nat _ p.1 I := fun p hp => by
  rcases List.mem_cons.mp hp with rfl | hp
  · exact h (a5, p5) (List.mem_cons_self ..)
  · rcases List.mem_cons.mp hp with rfl | hp
    · exact h (a4, p4) (.tail _ (List.mem_cons_self ..))
    · exact h p (.tail _ (.tail _ hp))
theorem lt_three {I : Nat} {a6 a5 a4 : Addr} {p6 p5 p4 o6 o5 o4 : Obj} {r : Led} (h : ∀ p ∈ (a6, p6) :: (a5, p5) :: (a4, p4) :: r, @LT.lt Nat _ p.1 I) : ∀ p ∈ (a6, o6) :: (a5, o5) :: (a4, o4) :: r, @LT.lt Nat _ p.1 I := fun p hp => by
  rcases List.mem_cons.mp hp with rfl | hp
  · exact h (a6, p6) (List.mem_cons_self ..)
  · exact lt_two (fun p hp => h p (.tail _ hp)) p hp
inductive HubP (tb : Bool) (s : Shared) (v : Value) (s' : Shared) : Prop
  | mk (tk) (_ : v = .bool tb) (_ : s' = { s with toks := tk }) : HubP tb s v s'
theorem hub {prog : Program} {w : World} {A : Around} {E : Value → Shared → Prop} {s : Shared} {env : Env} {e : PySem.Expr} {Q : Value → Shared → Prop} (tb : Bool)
    (h1 : wpAny (model prog w) A (eval e env) (HubP tb s) E s) (h2 : ∀ tk, Q (.bool tb) { s with toks := tk }) : wpAny (model prog w) A (eval e env) Q E s :=
  wpAny_mono h1 (fun _ _ h => by obtain ⟨tk, rfl, rfl⟩ := h; exact h2 tk) fun _ _ x => x
theorem or_tree (a b c d : Bool) : a = true ∨ (a = false ∧ b = true) ∨ (a = false ∧ b = false ∧ c = true) ∨ (a = false ∧ b = false ∧ c = false ∧ d = true) ∨ (a = false ∧ b = false ∧ c = false ∧ d = false) := by
  cases a <;> cases b <;> cases c <;> cases d <;> simp
theorem ne_same {prog : Program} {w : World} {A : Around} {E : Value → Shared → Prop} {s : Shared} {b : Bool} {Q : Value → Shared → Prop} (h : Q (.bool false) s) : wpAny (model prog w) A (compareOp .NotEq (.bool b) (.bool b)) Q E s :=
  ne_bool (by rw [bne_self_eq_false]; exact h)
theorem ne_diff {prog : Program} {w : World} {A : Around} {E : Value → Shared → Prop} {s : Shared} {i j : Nat} {t u : Tok} {Q : Value → Shared → Prop} (hi : i < 6) (hj : j < 6) (e : i ≠ j) (h : Q (.bool true) s) : wpAny (model prog w) A (compareOp .NotEq (.str (sgk i) t) (.str (sgk j) u)) Q E s := by
  refine ne_str ?_
  have : (sgk i != sgk j) = true := by
    have a : ∀ i j : Fin 6, i ≠ j → (sgk i != sgk j) = true := by decide +kernel
    exact a ⟨i, hi⟩ ⟨j, hj⟩ fun x => e (congrArg Fin.val x)
  rw [this]
  exact h
theorem ne_alike {prog : Program} {w : World} {A : Around} {E : Value → Shared → Prop} {s : Shared} {x : Str} {t u : Tok} {Q : Value → Shared → Prop} (h : Q (.bool false) s) : wpAny (model prog w) A (compareOp .NotEq (.str x t) (.str x u)) Q E s :=
  ne_str (by rw [bne_self_eq_false]; exact h)
theorem notInL {prog : Program} {w : World} {A : Around} {E : Value → Shared → Prop} {s : Shared} {h₀ : Heap} {L a : Addr} {news : Led} {xs : List Value} {ka : Nat} {ds : List Dat} {Q : Value → Shared → Prop} {r : Bool} {x : Value} {d : Dat} (N : News h₀ L s.heap news) (ma : (a, listOf xs.toArray ka) ∈ news) (Da : DatAll news xs ds) (Dx : DatIn news x d)
    (ha : ∀ d ∈ ds, kqdOk 8 d = true) (hd : kqdOk 8 d = true) (hu : A.units + 64 < cLine) (hr : d ∈ ds ↔ r = true) (h : Q (.bool (!r)) s) : wpAny (model prog w) A (compareOp .NotIn x (.ref a)) Q E s := by
  classical
  refine kqd_notIn N ma rfl rfl Da (fun _ h => h) Dx (fun _ h => h) ha hd hu ?_
  by_cases e : d ∈ ds
  · rw [decide_eq_true e, ← hr.mp e]; exact h
  · have : r = false := by cases q : r with
      | false => rfl
      | true => exact absurd (hr.mpr q) e
    rw [decide_eq_false e, ← this]; exact h
theorem heldB_iff' {i a : Nat} : (Dat.str (sgk a)) ∈ ((heldOf i).map fun k => Dat.str (sgk k)) ↔ heldB i a = true := by
  rw [heldB, List.any_eq_true, List.mem_map]
  constructor
  · rintro ⟨x, hx, e⟩
    injection e with e
    exact ⟨x, hx, decide_eq_true e⟩
  · rintro ⟨x, hx, e⟩
    exact ⟨x, hx, by rw [of_decide_eq_true e]⟩
theorem ways_take {l : List Nat} {k : Nat} (h : k < l.length) {p : Nat → Bool} {f : Nat → Dat} : ((l.take (k + 1)).filter p).map f = ((l.take k).filter p).map f ++ (if p l[k] then [f l[k]] else []) := by
  rw [(List.take_append_getElem h).symm, List.filter_append, List.map_append]
  congr 1
  by_cases hp : p l[k] = true
  · rw [if_pos hp, List.filter_cons_of_pos hp]; rfl
  · rw [if_neg hp, List.filter_cons_of_neg hp]; rfl
theorem xor_opp {i : Nat} (h : i < 6) : Builtin.bitXor (i : Int) 1 = ((opp i : Nat) : Int) := by
  match i, h with
  | 0, _ | 1, _ | 2, _ | 3, _ | 4, _ | 5, _ => decide +kernel
end
section
theorem held_nil {kept : List (List Nat)} {i j : Nat} : (((waysOf kept).filter fun x => !heldB x i && !heldB x j).map fun x => clD (heldOf x)) = [] ↔ heldN kept i j = true := by
  rw [List.map_eq_nil_iff, heldN, List.isEmpty_iff]
theorem ways_len (kept : List (List Nat)) : (waysOf kept).length ≤ 8 := List.length_filter_le _ _
end
section
theorem strs_of {led : Led} {ws : List Value} {r : List Nat} (h : DatAll led ws (r.map fun k => .str (sgk k))) : StrsAre ws (r.map sgk) := by
  induction r generalizing ws with
  | nil => cases h; exact .nil
  | cons k r ih =>
    cases h with
    | cons h1 h2 =>
      cases h1
      exact .cons _ _ (ih h2)
theorem ov1 {M m₀ : Str → Option Value} {a : Str} (h : ∀ y, y ≠ a → M y = m₀ y) : M = fun y => if y = a then M y else m₀ y := by
  funext y
  by_cases h1 : y = a
  · rw [if_pos h1]
  rw [if_neg h1]
  exact h y h1
inductive JSign (news₀ : Led) (m₀ : Str → Option Value) (rest : List Nat) (m : Str → Option Value) (nw : Led) : Prop
  | mk (q : Str → Option Value) (a5 a4 : Addr) (o5 p4 o4 : Obj) (x4 : Option Value) (r : Led) (is : List Nat) (_ : news₀ = (a5, o5) :: (a4, p4) :: r) (_ : m = (fun y => if y = Str.ofString "calls" then q y else m₀ y)) (_ : nw = (a5, o5) :: (a4, o4) :: r) (_ : o4.data = .cell x4) (_ : rest = is.map chk) (_ : ∀ k ∈ is, k < 6) : JSign news₀ m₀ rest m nw
theorem JSign.on {P : (Str → Option Value) → Led → Prop} {a5 a4 : Addr} {o5 p4 : Obj} {r : Led} {m₀ m : Str → Option Value} {rest : List Nat} {nw : Led} (h : JSign ((a5, o5) :: (a4, p4) :: r) m₀ rest m nw)
    (k : ∀ (q : Str → Option Value) (o4 : Obj) (x4 : Option Value) (is : List Nat), o4.data = .cell x4 → rest = is.map chk → (∀ k ∈ is, k < 6) → P (fun y => if y = Str.ofString "calls" then q y else m₀ y) ((a5, o5) :: (a4, o4) :: r)) : P m nw := by
  obtain ⟨q, a5', a4', o5', p4', o4, x4, r', is, hn, rfl, rfl, h4, hr, his⟩ := h
  injection hn with e1 e2
  injection e1 with e3 e4
  injection e2 with e5 e6
  injection e5 with e7 e8
  subst e3 e4 e7 e6
  exact k q o4 x4 is h4 hr his
end
section
local macro_rules | `(tactic| k_qdec) => `(tactic| decide +kernel)
local macro_rules | `(tactic| walk_at "call ref") => `(tactic| (k_here; refine hold_in ?_))
local macro_rules | `(tactic| walk_at "exec Assign cons ListComp") => `(tactic| (k_here; (with_reducible show wpAny _ _ (exec (Stmt.Assign _ (Expr.ListComp _ [⟨Expr.Name _ _, _, [], _⟩] _ _) _) _) _ _ _); k_dflt (refine LCg.Assign_ListComp_U (F₀ := by k_asm) (by rfl) (by with_unfolding_all rfl) (by with_unfolding_all rfl) (by decide) (by rfl) (by decide) (by rfl) (by rfl) (by rfl) ?_)))
local macro_rules | `(tactic| walk_at "exec Assign cons ListComp") => `(tactic| (k_here; (with_reducible show wpAny _ _ (exec (Stmt.Assign _ (Expr.ListComp _ [⟨Expr.Tuple _ _ _, _, _, _⟩] _ _) _) _) _ _ _); refine hold_in ?_))
local macro_rules | `(tactic| walk_at "eval ListComp") => `(tactic| (k_here; (with_reducible show wpAny _ _ (eval (Expr.ListComp _ [⟨_, _, [_], _⟩] _ _) _) _ _ _); k_dflt (refine LCt.ListComp_T (F₀ := by k_asm) (by with_unfolding_all rfl) (by decide) (by rfl) (by decide) (by rfl) ?_)))
local macro_rules | `(tactic| walk_at "eval ListComp") => `(tactic| (k_here; (with_reducible show wpAny _ _ (eval (Expr.ListComp _ [⟨_, _, [], _⟩] _ _) _) _ _ _); k_dflt (refine LCg.ListComp_U (F₀ := by k_asm) (by with_unfolding_all rfl) (by decide) (by rfl) (by decide) (by rfl) ?_)))
local macro_rules | `(tactic| walk_at "CompSrc") => `(tactic| (k_here; refine hold_in ?_))
local macro_rules | `(tactic| walk_at "CompSrcT") => `(tactic| (k_here; refine hold_in ?_))
local macro_rules | `(tactic| walk_at "CompRest") => `(tactic| refine hold_in ?_)
local macro_rules | `(tactic| walk_at "CompRestT") => `(tactic| refine hold_in ?_)
local macro_rules | `(tactic| walk_at "CompEnd") => `(tactic| refine hold_in ?_)
local macro_rules | `(tactic| walk_at "call type:zip") => `(tactic| (k_here; refine hold_in ?_))
local macro_rules | `(tactic| walk_at "compareOp NotEq ref ref") => `(tactic| (k_here; refine hold_in ?_))
local macro_rules | `(tactic| walk_at "compareOp Eq ref ref") => `(tactic| (k_here; refine hold_in ?_))
local macro_rules | `(tactic| walk_at "FinE") => `(tactic| (k_here; (with_reducible rename Mark 30 => zM); refine hold_in ?_))
local macro_rules | `(tactic| walk_at "FinE") => `(tactic| ((with_reducible rename Mark 30 => zM); refine hold_in ?_))
local macro_rules | `(tactic| walk_at "storeName") => `(tactic| (k_here; (with_reducible show wpAny _ _ (storeName _ (Str.ofString "leads") _) _ _ _); (fail_if_success (with_reducible rename Mark 1 => zM)); refine hold_in ?_))
local macro_rules | `(tactic| walk_at "storeName") => `(tactic| (k_here; (with_reducible show wpAny _ _ (storeName _ (Str.ofString "signs") _) _ _ _); (fail_if_success (with_reducible rename Mark 2 => zM)); refine hold_in ?_))
local macro_rules | `(tactic| walk_at "eval ListComp") => `(tactic| (k_here; (with_reducible show wpAny _ _ (eval (Expr.ListComp _ [⟨_, Expr.Name _ _, [_], _⟩] _ _) _) _ _ _); k_dflt (refine LCt.ListComp_T (F₀ := by k_asm) (by with_unfolding_all rfl) (by decide) (by rfl) (by decide) (by rfl) ?_)))
local macro_rules | `(tactic| walk_at "eval ListComp") => `(tactic| (k_here; (with_reducible show wpAny _ _ (eval (Expr.ListComp _ [⟨_, Expr.Call _ _ _ _, [_], _⟩] _ _) _) _ _ _); k_dflt (refine ListComp_R (F₀ := by k_asm) (by with_unfolding_all rfl) (by decide) (by rfl) (by decide) (by rfl) ?_)))
local macro_rules | `(tactic| walk_at "SrcStep") => `(tactic| (k_here; refine hold_in ?_))
local macro_rules | `(tactic| walk_at "subscriptTail") => `(tactic| (k_here; (with_reducible show wpAny _ _ (subscriptTail _ _ (Value.ref _) (Value.str _ _)) _ _ _); k_dflt (refine kda_item (knd := PySem.strKind _ _) (by k_asm) (by k_mem) (by assumption) (by exact strKind_is _ _ _ _) (by assumption) ?_)))
local macro_rules | `(tactic| walk_at "subscriptTail Name BinOp str int") => `(tactic| walk_at "SUBSI")
local macro_rules | `(tactic| walk_at "subscriptTail Name Name str int") => `(tactic| walk_at "SUBSI")
local macro_rules | `(tactic| walk_at "SUBSI") => `(tactic| (k_here; (with_reducible show wpAny _ _ (subscriptTail _ _ (Value.str _ _) (Value.int (Nat.cast _) _)) _ _ _); k_dflt (refine sgk_at (by exact rfl) (by omega) ?_); intro u'))
local macro_rules | `(tactic| walk_at "SUBSI") => `(tactic| (k_here; (with_reducible show wpAny _ _ (subscriptTail _ _ (Value.str _ _) (Value.int (Nat.cast _ + 1) _)) _ _ _); k_dflt (refine sgk_at1 (by omega) ?_); intro u'))
local macro_rules | `(tactic| walk_at "compareOp In str ref") => `(tactic| (k_here; k_dflt (refine kdp_inB (h := ?_))))
local macro_rules | `(tactic| walk_at "exec For Name Call cons cons") => `(tactic| (k_here; refine hold_in ?_))
local macro_rules | `(tactic| walk_at "exec For Name Call cons nil") => `(tactic| (k_here; refine hold_in ?_))
local macro_rules | `(tactic| walk_at "exec For Name Call") => `(tactic| (k_here; refine hold_in ?_))
local macro_rules | `(tactic| walk_at "newList") => `(tactic| (k_here; (with_reducible show wpAny _ _ (newList []) _ _ _); k_dflt (refine newList_K (hsz := Nat.zero_le _) (by k_asm) (by k_asm) ?_; k_whole); intro l' h' F' N' l1; (try k_lt l1); (try k_sweep)))
local macro_rules | `(tactic| walk_at "pyIter ref") => `(tactic| (k_here; refine hold_in ?_))
local macro_rules | `(tactic| walk_at "exec For Name Name cons cons") => `(tactic| (k_here; refine hold_in ?_))
local macro_rules | `(tactic| walk_at "exec For Name Name cons nil") => `(tactic| (k_here; refine hold_in ?_))
local macro_rules | `(tactic| walk_at "exec For Name Name") => `(tactic| (k_here; refine hold_in ?_))
local macro_rules | `(tactic| walk_at "compareOp In str ref") => `(tactic| (k_here; k_dflt (refine kdp_inB (by k_tabat) (by with_reducible assumption) ?_)))
local macro_rules | `(tactic| walk_at "eval BoolOp") => `(tactic| (k_here; (with_reducible show wpAny _ _ (eval (PySem.Expr.BoolOp _ [_, _, _, _] _) _) _ _ _); refine hold_in ?_))
local macro_rules | `(tactic| walk_at "compareOp NotEq bool bool") => `(tactic| (k_here; refine hold_in ?_))
local macro_rules | `(tactic| walk_at "compareOp NotEq str str") => `(tactic| (k_here; refine hold_in ?_))
local macro_rules | `(tactic| walk_at "SUBSI") => `(tactic| (k_here; (with_reducible show wpAny _ _ (subscriptTail _ _ (Value.str _ _) (Value.int (Builtin.bitXor (Nat.cast _) 1) _)) _ _ _); k_dflt (refine sgk_at (by exact xor_opp (by omega)) (by exact opp_lt (by omega)) ?_); intro u'))
local macro_rules | `(tactic| walk_at "compareOp NotIn str ref") => `(tactic| (k_here; refine hold_in ?_))
local macro_rules | `(tactic| walk_at "compareOp NotIn") => `(tactic| (k_here; refine hold_in ?_))
local macro_rules | `(tactic| walk_at "pyIter str") => `(tactic| (k_here; refine hold_in ?_))
local macro_rules | `(tactic| walk_at "call builtin:len") => `(tactic| (k_here; refine hold_in ?_))
local macro_rules | `(tactic| walk_at "subscriptTail") => `(tactic| (k_here; (with_reducible show wpAny _ _ (subscriptTail _ _ (Value.ref _) (Value.int _ _)) _ _ _); refine hold_in ?_))
local macro_rules | `(tactic| walk_at "compareOp NotEq int int") => `(tactic| (k_here; refine hold_in ?_))
theorem law_all : PySem.Challenge.rw_jc0002_01.Holds := Mine.hd (by
  k_go0
  rename Shared => s₁
  rename Obj.data _ = Data.cell _ => c1; refine cell_any c1 fun x1 c1' => ?_; clear c1; revert c1' x1
  rename Obj.data _ = Data.cell _ => c1; refine cell_any c1 fun x1 c1' => ?_; clear c1; revert c1' x1
  rename Obj.data _ = Data.cell _ => c1; refine cell_any c1 fun x1 c1' => ?_; clear c1; revert c1' x1
  rename Obj.data _ = Data.cell _ => c1; refine cell_any c1 fun x1 c1' => ?_; clear c1; revert c1' x1
  rename Obj.data _ = Data.cell _ => c1; refine cell_any c1 fun x1 c1' => ?_; clear c1; revert c1' x1
  generalize hL0 : s₁.heap.objs.size = L0 at *
  generalize ehb : s₁.heap = hb at *
  generalize eg0 : s₁.gens = g0 at *
  generalize edr0 : s₁.drawn = dr0 at *
  generalize eos0 : s₁.os = os0 at *
  intro x1 c1 x2 c2 x3 c3 x4 c4 x5 c5
  walk_at "FOLD"
  k_steps
  refine Hold.out ?_
  rename Heap.IsList _ _ _ => hScr
  rename IntsAre _ _ => hScrI
  rename ¬ ((63 : Nat) : Int) < _ => hScrN
  rename Below _ _ _ _ => hB
  rename Fr _ _ _ _ => lF
  rename News _ _ _ _ => lN
  rename Top _ _ _ _ _ _ => lT
  refine fr_any lF fun m0 lF' => ?_
  clear lF
  rename Fr _ _ _ _ => lF
  k_dflt (refine' (c_cellsB _ _ _ _ ?cI ?cL) _ _ _ _ _ _ _ _ _ _ _ _ _ _ _ _ _ _ _ _ _ hB lF ?cX lN lT ?cK ?cD ?cU hScr ?_)
  case cI => exact ints_of hScrI
  case cL => have := hScrI.length; omega
  case cX => assumption
  case cK => exact rfl
  case cD => first | ktr_room | decide
  case cU => first | units_room | decide
  intro v9 new9 h9 tk9 F9 N9 off9 hD9
  refine foldP fun G hG => ?_
  obtain ⟨rc, kc, cs, zr1, zr2, hcI, hc6⟩ := hD9
  refine hG ?_
  clear hG G
  subst zr1
  subst zr2
  obtain ⟨xs, hxs, hx6⟩ := ints_to hcI
  rw [hc6] at hx6
  simp only [List.cons_append, List.nil_append] at N9
  clear lF lN
  (try dsimp only)
  k_sweep
  k_steps
  refine Hold.out ?_
  (rename Fr _ _ _ _ => lF); (rename News _ _ _ _ => lN)
  k_dflt (refine LCg.CompSrc.ledger (by rfl) lF lN (by k_mem) (by simp only [List.size_toArray]; exact short_line (by omega)) ?_)
  intro g1
  refine compRest_each (fun i ys nw => KOwn _ ((xs.take i).map fun x => plD (placesOf x)) ys nw) (fun i ys nw v I oI C oC D m2 h tk E' hi hK hv hC hx F N off ne => ?_) kown_nil (fun ys nw hK => ?_)
  · refine foldP fun G hG => ?_
    obtain ⟨own, zr1, hys, hap⟩ := hK
    refine hG ?_
    clear hG G
    subst zr1
    refine foldP fun G hG => ?_
    obtain ⟨x, t9, hxi, zr1⟩ := ints_at hxs (by simpa using hv)
    refine hG ?_
    clear hG G
    subst zr1
    have hi' : i < xs.length := by rw [List.size_toArray] at hi; omega
    have htk : xs.take (i + 1) = xs.take i ++ [x] := by
      have e : xs[i] = x := by rw [List.getElem?_eq_getElem hi'] at hxi; exact Option.some.inj hxi
      rw [← e]; exact (List.take_append_getElem hi').symm
    clear lF lN
    k_steps
    refine Hold.out ?_
    (rename Fr _ _ _ _ => lF); (rename News _ _ _ _ => lN)
    k_dflt (refine' (c_places _ _ x _).use _ _ _ _ _ _ _ _ _ _ _ _ _ _ _ _ _ _ _ _ _ ?cB lF ?cX lN lT ?cK ?cD ?cU ?_)
    case cB => exact hB
    case cX => assumption
    case cK => exact rfl
    case cD => first | ktr_room | decide
    case cU => first | units_room | decide
    intro v9 new9 h9 tk9 F9 N9 off9 hD9
    clear lF lN
    (try dsimp only)
    k_sweep
    k_steps
    refine Hold.out ?_
    refine compEnd_new F9 N9 off off9 ?_ ?_
    · exact Or.inr ⟨_, List.mem_append_right _ (List.mem_append_right _ (List.mem_cons_self ..)), rfl, _, rfl⟩
    · rw [htk, List.map_append]
      exact kown_step hys hap (fun q hq => off9 q (.tail _ (.tail _ (.tail _ hq)))) (DatIn.mono (fun p hp => List.mem_append_left _ hp) (outL_dat hD9))
  · refine foldP fun G hG => ?_
    obtain ⟨own, zr1, hys, hap⟩ := hK
    refine hG ?_
    clear hG G
    subst zr1
    have hc6' : cs.toArray.size = xs.length := by rw [List.size_toArray]; omega
    rw [hc6', List.take_length] at hys
    clear lF lN
    k_steps
    refine Hold.out ?_
    (rename Fr _ _ _ _ => lF); (rename News _ _ _ _ => lN)
    have ho1 := off1_mem ‹LCg.Off1 _ _›
    have hyl : ys.length = xs.length := by have := hys.length; simpa using this
    k_dflt (refine Assign_Zip none lF (by rfl) (by with_unfolding_all rfl) (by with_unfolding_all rfl) (by decide) (by rfl) (by decide) (by rfl) (by rfl) (by decide) (by rfl) (by rfl) ?_)
    k_steps
    refine Hold.out ?_
    (rename Fr _ _ _ _ => lF); (rename News _ _ _ _ => lN)
    refine zip_new lF lN (List.mem_cons_self ..) (List.mem_cons_of_mem _ (List.mem_append_right _ (List.mem_cons_self ..))) (fun z h' F N ZA => ?_)
    clear lF lN
    refine ⟨z, _, _, ys, cs, _, _, _, rfl, rfl, F, N, List.mem_cons_self .., List.mem_cons_of_mem _ (List.mem_append_right _ (List.mem_cons_self ..)), ZA, by omega, by omega, fun i ys2 nw => KOwn _ ((xs.take i).map fun x => dueOf (placesOf x)) ys2 nw, kown_nil, ?_, ?_⟩
    · clear F N ZA
      intro i ys2 nw v₁ v₂ its C oC D2 m2 h tk E' hi hK hv1 hv2 hC hx1 hx2 F N off hCD hkeep
      refine foldP fun G hG => ?_
      obtain ⟨own2, zr1, hys2, hap2⟩ := hK
      refine hG ?_
      clear hG G
      subst zr1
      refine foldP fun G hG => ?_
      obtain ⟨x, t9, hxi, zr1⟩ := ints_at hxs hv2
      refine hG ?_
      clear hG G
      subst zr1
      have hi' : i < xs.length := by omega
      have hxe : xs[i] = x := by rw [List.getElem?_eq_getElem hi'] at hxi; exact Option.some.inj hxi
      have htk : xs.take (i + 1) = xs.take i ++ [x] := by rw [← hxe]; exact (List.take_append_getElem hi').symm
      have hD := dat_map (v := v₁) hys hv1 hi'
      rw [hxe] at hD
      refine foldP fun G hG => ?_
      obtain ⟨a, vs, n, zr1, ma, hvs⟩ := pl_open hD
      refine hG ?_
      clear hG G
      subst zr1
      dsimp only [Tst]
      rw [if_pos rfl]
      k_steps
      refine Hold.out ?_
      have hfm := fm_range (x.fdiv 7056) 3 (by decide)
      (rename Fr _ _ _ _ => lF); (rename News _ _ _ _ => lN)
      k_dflt (refine' (c_name _ _ a n vs (placesOf x) _ _ hfm.1 hfm.2 (places_shp x).ok hvs (places_shp x).two (shp_row (places_shp x)) (by simp only [List.mem_cons, List.mem_append]; exact .inr (.inr (.inr (.inr (.inr (.inl ma))))))).use _ _ _ _ _ _ _ _ _ _ _ _ _ _ _ _ _ _ _ _ ?cB lF ?cX ?cXB lN lT ?cTB ?cK ?cD ?cU ?_)
      case cB => exact hB
      case cX => assumption
      case cXB => assumption
      case cTB => exact lT
      case cK => exact rfl
      case cD => first | ktr_room | decide
      case cU => first | units_room | decide
      intro v9 new9 h9 tk9 F9 N9 off9 hD9
      clear lF lN
      (try dsimp only)
      k_sweep
      k_steps
      refine zEnd_new F9 N9 off off9 hkeep ?_
      rw [htk, List.map_append]
      exact kown_step hys2 hap2 (fun q hq => off9 q (.tail _ (.tail _ (List.mem_append_right _ hq)))) (DatIn.mono (fun p hp => List.mem_append_left _ hp) hD9)
    · clear F N ZA
      intro D2 h tk ys2 nw hK F N off2
      refine foldP fun G hG => ?_
      obtain ⟨own2, zr1, hys2, hap2⟩ := hK
      refine hG ?_
      clear hG G
      subst zr1
      rw [hyl, List.take_length] at hys2
      (try dsimp only)
      k_steps
      refine Hold.out ?_
      (rename Fr _ _ _ _ => lF); (rename News _ _ _ _ => lN)
      obtain ⟨Dc, e1, _⟩ := fr_ref lF (Str.ofString "clauses") rfl
      subst e1
      have hclN : ∀ t : Led, (Dc, LCg.lst ys) ∈ (D2, LCg.lst ys2) :: (own2 ++ ((Dc, LCg.lst ys) :: (own ++ t))) := fun t => List.mem_cons_of_mem _ (List.mem_append_right _ (List.mem_cons_self ..))
      k_dflt (refine LCg.CompSrc.ledger (by rfl) lF lN (hclN _) (by simp only [List.size_toArray]; exact short_line (by omega)) ?_)
      intro g1
      refine compRest_each (fun i zs nw => KOwn _ ((xs.take i).map fun x => dueOf (placesOf x)) zs nw) (fun i zs nw v I oI C oC D m2 h tk E' hi hK hv hC hx F N off ne => ?_) kown_nil (fun zs nw hK => ?_)
      · refine foldP fun G hG => ?_
        obtain ⟨own3, zr1, hzs, hap3⟩ := hK
        refine hG ?_
        clear hG G
        subst zr1
        have hi' : i < xs.length := by rw [List.size_toArray] at hi; omega
        have htk : xs.take (i + 1) = xs.take i ++ [xs[i]] := (List.take_append_getElem hi').symm
        have hD := dat_map (v := v) hys (by simpa using hv) hi'
        generalize xs[i] = x at hD htk
        refine foldP fun G hG => ?_
        obtain ⟨a, vs, n, zr1, ma, hvs⟩ := pl_open hD
        refine hG ?_
        clear hG G
        subst zr1
        clear lF lN
        k_steps
        refine Hold.out ?_
        (rename Fr _ _ _ _ => lF); (rename News _ _ _ _ => lN)
        k_dflt (refine' (c_due _ _ a n vs (placesOf x) (places_shp x) hvs (by simp only [List.mem_cons, List.mem_append]; exact .inr (.inr (.inr (.inr (.inr (.inr (.inr (.inl ma))))))))).use _ _ _ _ _ _ _ _ _ _ _ _ _ _ _ _ _ _ _ _ _ ?cB lF ?cX lN lT ?cK ?cD ?cU ?_)
        case cB => exact hB
        case cX => assumption
        case cK => exact rfl
        case cD => first | ktr_room | decide
        case cU => first | units_room | decide
        intro v9 new9 h9 tk9 F9 N9 off9 hD9
        clear lF lN
        (try dsimp only)
        k_sweep
        k_steps
        refine Hold.out ?_
        refine compEnd_new F9 N9 off off9 ?_ ?_
        · exact Or.inr ⟨_, List.mem_append_right _ (List.mem_append_right _ (hclN _)), rfl, _, rfl⟩
        · rw [htk, List.map_append]
          exact kown_step hzs hap3 (fun q hq => off9 q (.tail _ (.tail _ (.tail _ hq)))) (DatIn.mono (fun p hp => List.mem_append_left _ hp) hD9)
      · refine foldP fun G hG => ?_
        obtain ⟨own3, zr1, hzs, hap3⟩ := hK
        refine hG ?_
        clear hG G
        subst zr1
        have hyn : ys.toArray.size = xs.length := by rw [List.size_toArray]; omega
        rw [hyn, List.take_length] at hzs
        clear lF lN
        k_steps
        refine Hold.out ?_
        (rename Fr _ _ _ _ => lF); (rename News _ _ _ _ => lN)
        refine neL (r := false) (xs := ys2) (ys := zs) (ds := xs.map fun x => dueOf (placesOf x)) (es := xs.map fun x => dueOf (placesOf x)) lN (List.mem_cons_of_mem _ (List.mem_append_right _ (List.mem_cons_self ..))) (DatAll.mono (fun p hp => ?_) hys2) (List.mem_cons_self ..) (DatAll.mono (fun p hp => ?_) hzs) due_oks due_oks (by first | units_room | decide) ⟨fun e => absurd rfl e, fun e => nomatch e⟩ ?_
        · simp only [List.mem_cons, List.mem_append]; exact .inr (.inr (.inr (.inl hp)))
        · simp only [List.mem_cons, List.mem_append]; exact .inr (.inl hp)
        k_steps
        refine Hold.out ?_
        have mk30 : Mark 30 := rfl
        (rename Fr _ _ _ _ => lF); (rename News _ _ _ _ => lN)
        refine foldP fun G hG => ?_
        obtain ⟨R, lN2, hRk, hL1⟩ := pack1 (X := _ :: own3) lN hys hys2 hap hap2 ho1 off2 (fun q hq => off9 q hq (rc, _) (List.mem_singleton.mpr rfl))
        refine hG ?_
        clear hG G
        clear lN hys hys2 hap hap2 ho1 off2 off9 hzs hap3
        have hcl1 : ∀ k5 k4 k3 k2 k1 : Addr × Obj, (Dc, LCg.lst ys) ∈ k5 :: k4 :: k3 :: k2 :: k1 :: R := fun _ _ _ _ _ => by simp [hL1.c1]
        k_dflt (refine LCt.CompSrcT.ledger (by rfl) lF lN2 (hcl1 _ _ _ _ _) (by simp only [List.size_toArray]; exact short_line (by omega)) ?_)
        intro g1
        refine compRestT_each (fun i zs nw => KOwn _ ((keptOf ((xs.take i).map placesOf)).map clD) zs nw) (fun i zs nw v I oI C oC D m2 h tk E' hi hK hv hC hx F N off ne => ?_) kown_nil (fun zs nw hK => ?_)
        · refine foldP fun G hG => ?_
          obtain ⟨own4, zr1, hzs, hap4⟩ := hK
          refine hG ?_
          clear hG G
          subst zr1
          have hi' : i < xs.length := by rw [List.size_toArray] at hi; omega
          have htk : xs.take (i + 1) = xs.take i ++ [xs[i]] := (List.take_append_getElem hi').symm
          have hD := dat_map (v := v) hL1.d1 (by simpa using hv) hi'
          generalize xs[i] = x at hD htk
          refine foldP fun G hG => ?_
          obtain ⟨a, vs, n, zr1, ma, hvs⟩ := pl_open hD
          refine hG ?_
          clear hG G
          subst zr1
          have hsh := places_shp x
          have ma2 : ∀ q1 q2 q3 k5 k4 k3 k2 k1 : Addr × Obj, (a, listOf vs.toArray n) ∈ q1 :: q2 :: q3 :: (own4 ++ (k5 :: k4 :: k3 :: k2 :: k1 :: R)) := fun _ _ _ _ _ _ _ _ => by simp [ma]
          clear lF lN2
          k_steps
          refine Hold.out ?_
          (rename Fr _ _ _ _ => lF); (rename News _ _ _ _ => lN)
          k_dflt (refine' (c_signs _ _ a n vs (placesOf x) hsh hvs (ma2 _ _ _ _ _ _ _ _)).use _ _ _ _ _ _ _ _ _ _ _ _ _ _ _ _ _ _ _ _ _ ?cB lF ?cX lN lT ?cK ?cD ?cU ?_)
          case cB => exact hB
          case cX => assumption
          case cK => exact rfl
          case cD => first | ktr_room | decide
          case cU => first | units_room | decide
          intro v9 new9 h9 tk9 F9 N9 off9 hD9
          refine foldP fun G hG => ?_
          obtain ⟨r9, k9, vs9, zr1, zr2, hvs9⟩ := hD9
          refine hG ?_
          clear hG G
          subst zr1
          subst zr2
          simp only [List.cons_append, List.nil_append] at N9
          clear lF lN
          (try dsimp only)
          k_sweep
          k_steps
          refine Hold.out ?_
          (rename Fr _ _ _ _ => lF); (rename News _ _ _ _ => lN)
          have hiff : (¬ (signsOf (placesOf x)).map Pl.dat = []) ↔ (!(signsOf (placesOf x)).isEmpty) = true := by simp
          have hokp := pl_ok (ps := signsOf (placesOf x)) fun p hp => hsh.ok p (signs_sub hp).1
          cases hse : (signsOf (placesOf x)).isEmpty with
          | true =>
            refine neL (r := false) (xs := vs9) (ys := []) lN (List.mem_cons_of_mem _ (List.mem_cons_self ..)) (hvs9 _) (List.mem_cons_self ..) .nil hokp (fun _ hd => nomatch hd) (by first | units_room | decide) (hiff.trans (by rw [hse]; simp)) ?_
            clear hiff
            k_steps
            refine Hold.out ?_
            (rename Fr _ _ _ _ => lF); (rename News _ _ _ _ => lN)
            refine compEnd_new (new := []) lF (fun p hp => lN p (List.mem_cons_of_mem _ (List.mem_cons_of_mem _ hp))) off (fun q _ p hp => nomatch hp) (Or.inr ⟨_, List.mem_append_right _ (List.mem_append_right _ (hcl1 _ _ _ _ _)), rfl, _, rfl⟩) ?_
            rw [htk, List.map_append, List.map_singleton, kept_snoc, hse, if_pos rfl, List.append_nil]
            exact ⟨own4, rfl, hzs, hap4⟩
          | false =>
            refine neL (r := true) (xs := vs9) (ys := []) lN (List.mem_cons_of_mem _ (List.mem_cons_self ..)) (hvs9 _) (List.mem_cons_self ..) .nil hokp (fun _ hd => nomatch hd) (by first | units_room | decide) (hiff.trans (by rw [hse]; simp)) ?_
            clear hiff
            k_steps
            refine Hold.out ?_
            (rename Fr _ _ _ _ => lF); (rename News _ _ _ _ => lN)
            k_dflt (refine' (c_signs _ _ a n vs (placesOf x) hsh hvs (List.mem_cons_of_mem _ (List.mem_cons_of_mem _ (ma2 _ _ _ _ _ _ _ _)))).use _ _ _ _ _ _ _ _ _ _ _ _ _ _ _ _ _ _ _ _ _ ?cB lF ?cX lN lT ?cK ?cD ?cU ?_)
            case cB => exact hB
            case cX => assumption
            case cK => exact rfl
            case cD => first | ktr_room | decide
            case cU => first | units_room | decide
            intro v8 new8 h8 tk8 F8 N8 off8 hD8
            clear lF lN
            (try dsimp only)
            k_sweep
            k_steps
            refine Hold.out ?_
            refine compEnd_new F8 (fun p hp => N8 p ?_) off (fun q hq => off8 q (List.mem_cons_of_mem _ (List.mem_cons_of_mem _ hq))) (Or.inr ⟨_, List.mem_append_right _ (List.mem_append_right _ (hcl1 _ _ _ _ _)), rfl, _, rfl⟩) ?_
            · rcases List.mem_append.mp hp with hp | hp
              · exact List.mem_append_left _ hp
              · exact List.mem_append_right _ (List.mem_cons_of_mem _ (List.mem_cons_of_mem _ hp))
            · rw [htk, List.map_append, List.map_singleton, kept_snoc, hse, if_neg Bool.false_ne_true, List.map_append]
              exact kown_step hzs hap4 (fun q hq => off8 q (List.mem_cons_of_mem _ (List.mem_cons_of_mem _ (.tail _ (.tail _ (.tail _ hq)))))) (row_dat hsh ▸ DatIn.mono (fun p hp => List.mem_append_left _ hp) (outL_dat hD8))
        · refine foldP fun G hG => ?_
          obtain ⟨own4, zr1, hzs, hap4⟩ := hK
          refine hG ?_
          clear hG G
          subst zr1
          have hyn : ys.toArray.size = xs.length := by rw [List.size_toArray]; omega
          rw [hyn, List.take_length] at hzs
          clear lF lN2
          unfold LCg.FinE
          intro Dk hk4 tk4 Fk Nk ok1
          have hok1 := off1_mem ok1
          refine foldP fun G hG => ?_
          obtain ⟨R2, lN2, hRk2, hR12, hX2⟩ := pack (X := (Dk, LCg.lst zs) :: own4) Nk hRk (apc_new (ks := [_, _, _, _, _]) hok1 hap4)
          have hL2 := hL1.mono hR12
          have hKk : (Dk, LCg.lst zs) ∈ R2 := hX2 _ (List.mem_cons_self ..)
          have hKd : DatAll R2 zs ((keptOf (xs.map placesOf)).map clD) := DatAll.mono (fun p hp => hX2 p (List.mem_cons_of_mem _ hp)) hzs
          obtain ⟨q5, q4, q3, q2, q1⟩ := apc_open hRk2
          refine hG ?_
          clear hG G
          clear Nk hRk hL1 hzs hap4 hR12 hX2 hok1 ok1
          (try dsimp only)
          k_steps
          refine Hold.out ?_
          (rename Fr _ _ _ _ => lF); (rename News _ _ _ _ => lN)
          have hyl2 : ys2.length = xs.length := by have := hL2.d2.length; simpa using this
          have m1 : ∀ k5 k4 k3 k2 k1 : Addr × Obj, (D2, LCg.lst ys2) ∈ k5 :: k4 :: k3 :: k2 :: k1 :: R2 := fun _ _ _ _ _ => by simp [hL2.c2]
          have m2 : ∀ k5 k4 k3 k2 k1 : Addr × Obj, (Dc, LCg.lst ys) ∈ k5 :: k4 :: k3 :: k2 :: k1 :: R2 := fun _ _ _ _ _ => by simp [hL2.c1]
          k_dflt (refine Assign_Zip (some _) lF (by rfl) (by with_unfolding_all rfl) (by with_unfolding_all rfl) (by decide) (by rfl) (by decide) (by rfl) (by rfl) (by decide) (by rfl) (by rfl) ?_)
          k_steps
          refine Hold.out ?_
          (rename Fr _ _ _ _ => lF); (rename News _ _ _ _ => lN)
          refine zip_new lF lN (m1 _ _ _ _ _) (m2 _ _ _ _ _) (fun z h' F N ZA => ?_)
          clear lF lN
          refine ⟨z, _, _, ys2, ys, _, _, _, rfl, rfl, F, N, m1 _ _ _ _ _, m2 _ _ _ _ _, ZA, by omega, by omega, fun i rs nw => KOwn _ ((keptOf ((xs.take i).map placesOf)).map rowD) rs nw, kown_nil, ?_, ?_⟩
          · clear F N ZA
            intro i rs nw v₁ v₂ its C oC D m2' h tk E' hi hK hv1 hv2 hC hx1 hx2 F N off hCD hkeep
            refine foldP fun G hG => ?_
            obtain ⟨own5, zr1, hrs, hap5⟩ := hK
            refine hG ?_
            clear hG G
            subst zr1
            have hi' : i < xs.length := by omega
            have htk : xs.take (i + 1) = xs.take i ++ [xs[i]] := (List.take_append_getElem hi').symm
            have hD := dat_map (v := v₂) hL2.d1 hv2 hi'
            have hDn := dat_map (v := v₁) hL2.d2 hv1 hi'
            generalize xs[i] = x at hD hDn htk
            refine foldP fun G hG => ?_
            obtain ⟨a, vs, n, zr1, ma, hvs⟩ := pl_open hD
            refine hG ?_
            clear hG G
            subst zr1
            have hsh := places_shp x
            have ma2 : ∀ k5 k4 k3 k2 k1 : Addr × Obj, (a, listOf vs.toArray n) ∈ (C, oC) :: (D, LCg.lst rs) :: (its ++ (own5 ++ (k5 :: k4 :: k3 :: k2 :: k1 :: R2))) := fun _ _ _ _ _ => by simp [ma]
            have hiff : (¬ (signsOf (placesOf x)).map Pl.dat = []) ↔ (!(signsOf (placesOf x)).isEmpty) = true := by simp
            have hokp := pl_ok (ps := signsOf (placesOf x)) fun p hp => hsh.ok p (signs_sub hp).1
            dsimp only [Tst]
            k_steps
            refine Hold.out ?_
            (rename Fr _ _ _ _ => lF); (rename News _ _ _ _ => lN)
            k_dflt (refine' (c_signs _ _ a n vs (placesOf x) hsh hvs (ma2 _ _ _ _ _)).use _ _ _ _ _ _ _ _ _ _ _ _ _ _ _ _ _ _ _ _ _ ?cB lF ?cX lN lT ?cK ?cD ?cU ?_)
            case cB => exact hB
            case cX => assumption
            case cK => exact rfl
            case cD => first | ktr_room | decide
            case cU => first | units_room | decide
            intro v9 new9 h9 tk9 F9 N9 off9 hD9
            refine foldP fun G hG => ?_
            obtain ⟨r9, k9, vs9, zr1, zr2, hvs9⟩ := hD9
            refine hG ?_
            clear hG G
            subst zr1
            subst zr2
            simp only [List.cons_append, List.nil_append] at N9
            clear lF lN
            (try dsimp only)
            k_sweep
            k_steps
            refine Hold.out ?_
            (rename Fr _ _ _ _ => lF); (rename News _ _ _ _ => lN)
            cases hse : (signsOf (placesOf x)).isEmpty with
            | true =>
              refine neL (r := false) (xs := vs9) (ys := []) lN (List.mem_cons_of_mem _ (List.mem_cons_self ..)) (hvs9 _) (List.mem_cons_self ..) .nil hokp (fun _ hd => nomatch hd) (by first | units_room | decide) (hiff.trans (by rw [hse]; simp)) ?_
              clear hiff
              k_steps
              (rename Fr _ _ _ _ => lF); (rename News _ _ _ _ => lN)
              refine zEnd_new (new := []) lF (fun p hp => lN p (List.mem_cons_of_mem _ (List.mem_cons_of_mem _ hp))) off (fun q _ p hp => nomatch hp) hkeep ?_
              rw [htk, List.map_append, List.map_singleton, kept_snoc, hse, if_pos rfl, List.append_nil]
              exact ⟨own5, rfl, hrs, hap5⟩
            | false =>
              refine foldP fun G hG => ?_
              obtain ⟨xn, hxn, r1, r2, r3, r4⟩ := due_read hsh (fun e => by rw [e] at hse; simp at hse)
              refine hG ?_
              clear hG G
              rw [hxn] at hDn
              obtain ⟨tn, rfl⟩ := dat_str hDn
              refine neL (r := true) (xs := vs9) (ys := []) lN (List.mem_cons_of_mem _ (List.mem_cons_self ..)) (hvs9 _) (List.mem_cons_self ..) .nil hokp (fun _ hd => nomatch hd) (by first | units_room | decide) (hiff.trans (by rw [hse]; simp)) ?_
              clear hiff
              k_steps
              refine Hold.out ?_
              (rename Fr _ _ _ _ => lF); (rename News _ _ _ _ => lN)
              k_dflt (refine' (c_read _ _ xn tn r1 r2 r3).use _ _ _ _ _ _ _ _ _ _ _ _ _ _ _ _ _ _ _ _ _ ?cB lF ?cX lN lT ?cK ?cD ?cU ?_)
              case cB => exact hB
              case cX => assumption
              case cK => exact rfl
              case cD => first | ktr_room | decide
              case cU => first | units_room | decide
              intro v8 new8 h8 tk8 F8 N8 off8 hD8
              clear lF lN
              (try dsimp only)
              k_sweep
              k_steps
              refine zEnd_new F8 (fun p hp => N8 p ?_) off (fun q hq => off8 q (List.mem_cons_of_mem _ (List.mem_cons_of_mem _ hq))) hkeep ?_
              · rcases List.mem_append.mp hp with hp | hp
                · exact List.mem_append_left _ hp
                · exact List.mem_append_right _ (List.mem_cons_of_mem _ (List.mem_cons_of_mem _ hp))
              · rw [htk, List.map_append, List.map_singleton, kept_snoc, hse, if_neg Bool.false_ne_true, List.map_append]
                rw [r4] at hD8
                exact kown_step hrs hap5 (fun q hq => off8 q (List.mem_cons_of_mem _ (List.mem_cons_of_mem _ (.tail _ (.tail _ (List.mem_append_right _ hq)))))) (DatIn.mono (fun p hp => List.mem_append_left _ hp) hD8)
          · clear F N ZA
            intro Dr h tk rs nw hK F N ok1
            refine foldP fun G hG => ?_
            obtain ⟨own5, zr1, hrs, hap5⟩ := hK
            refine hG ?_
            clear hG G
            subst zr1
            rw [hyl2, List.take_length] at hrs
            refine foldP fun G hG => ?_
            obtain ⟨R3, lN3, hRk3, hR23, hX3⟩ := pack (X := (Dr, LCg.lst rs) :: own5) N (apc_mk q5 q4 q3 q2 q1) (apc_new (ks := [_, _, _, _, _]) ok1 hap5)
            have hKk3 : (Dk, LCg.lst zs) ∈ R3 := hR23 _ hKk
            have hKd3 : DatAll R3 zs ((keptOf (xs.map placesOf)).map clD) := DatAll.mono hR23 hKd
            have hRr : (Dr, LCg.lst rs) ∈ R3 := hX3 _ (List.mem_cons_self ..)
            have hRd : DatAll R3 rs ((keptOf (xs.map placesOf)).map rowD) := DatAll.mono (fun p hp => hX3 p (List.mem_cons_of_mem _ hp)) hrs
            clear N hKk hKd hL2 q5 q4 q3 q2 q1 hrs hap5 ok1 hX3 hR23 m1 m2
            obtain ⟨q5, q4, q3, q2, q1⟩ := apc_open hRk3
            refine hG ?_
            clear hG G
            (try dsimp only)
            k_steps
            refine Hold.out ?_
            (rename Fr _ _ _ _ => lF)
            have mr : ∀ k5 k4 k3 k2 k1 : Addr × Obj, (Dr, LCg.lst rs) ∈ k5 :: k4 :: k3 :: k2 :: k1 :: R3 := fun _ _ _ _ _ => by simp [hRr]
            have hko := kept_ok (pss := xs.map placesOf) fun ps hps => by
              obtain ⟨x, _, rfl⟩ := List.mem_map.mp hps
              exact places_shp x
            have hkl : (keptOf (xs.map placesOf)).length ≤ 6 := by have := kept_len (xs.map placesOf); rw [List.length_map] at this; omega
            have hrl : rs.length = (keptOf (xs.map placesOf)).length := by have := hRd.length; simpa using this
            have hzl : zs.length = (keptOf (xs.map placesOf)).length := by have := hKd3.length; simpa using this
            generalize hkp : keptOf (xs.map placesOf) = kept at *
            k_dflt (refine LCt.CompSrcT.ledger (by rfl) lF lN3 (mr _ _ _ _ _) (by simp only [List.size_toArray]; exact short_line (by omega)) ?_)
            intro g1
            refine compRestT_none (fun i v I oI C oC D m2 h tk E' hi hv hC hx F N off ne => ?_) ?_
            · have hi' : i < kept.length := by rw [List.size_toArray] at hi; omega
              have hD := dat_map (v := v) hRd (by simpa using hv) hi'
              obtain ⟨g1', g2'⟩ := hko _ (List.getElem_mem hi')
              generalize kept[i] = r at hD g1' g2'
              refine foldP fun G hG => ?_
              obtain ⟨a, vs, n, zr1, ma, hvs⟩ := row_open hD
              refine hG ?_
              clear hG G
              subst zr1
              clear lF lN3
              k_steps
              refine Hold.out ?_
              (rename Fr _ _ _ _ => lF); (rename News _ _ _ _ => lN)
              have ma2 : ∀ q0 q1 q2 q3 k5 k4 k3 k2 k1 : Addr × Obj, (a, listOf vs.toArray n) ∈ q0 :: q1 :: q2 :: q3 :: k5 :: k4 :: k3 :: k2 :: k1 :: R3 := fun _ _ _ _ _ _ _ _ _ => by simp [ma]
              refine eqL (r := false) (xs := vs) (ys := []) lN (ma2 _ _ _ _ _ _ _ _ _) (DatAll.mono (fun p hp => by simp [hp]) hvs) (List.mem_cons_self ..) .nil (prD_ok g2') (fun _ hd => nomatch hd) (by first | units_room | decide) ⟨fun e => by
                have := congrArg List.length e
                simp only [List.length_map, List.length_nil] at this
                omega, fun e => nomatch e⟩ ?_
              k_steps
              refine Hold.out ?_
              (rename Fr _ _ _ _ => lF); (rename News _ _ _ _ => lN)
              exact compEnd_new (new := []) lF (fun p hp => lN p (List.mem_cons_of_mem _ hp)) off (fun q _ p hp => nomatch hp) (Or.inr ⟨_, mr _ _ _ _ _, rfl, _, rfl⟩) rfl
            · clear lF lN3
              unfold LCg.FinE
              intro De h tk F N ok1
              k_steps
              refine Hold.out ?_
              (rename Fr _ _ _ _ => lF); (rename News _ _ _ _ => lN)
              refine neL (r := false) (xs := []) (ys := []) lN (List.mem_cons_of_mem _ (List.mem_cons_self ..)) .nil (List.mem_cons_self ..) .nil (fun _ hd => nomatch hd) (fun _ hd => nomatch hd) (by first | units_room | decide) ⟨fun e => absurd rfl e, fun e => nomatch e⟩ ?_
              k_steps
              refine Hold.out ?_
              (rename Fr _ _ _ _ => lF); (rename News _ _ _ _ => lN)
              have N5 : News _ _ _ _ := fun p hp => lN p (List.mem_cons_of_mem _ (List.mem_cons_of_mem _ hp))
              clear lN
              (rename Fr _ _ _ _ => lF); (rename News _ _ _ _ => lN)
              k_dflt (refine' (c_calls _ _ _ Dr _ rs kept (fun p hp => hp) (mr _ _ _ _ _) (DatAll.mono (fun p hp => by simp [hp]) hRd) hko hkl).use _ _ _ _ _ _ _ _ _ _ _ _ _ _ _ _ _ _ _ _ _ ?cB lF ?cX lN lT ?cK ?cD ?cU ?_)
              case cB => exact hB
              case cX => assumption
              case cK => exact rfl
              case cD => first | ktr_room | decide
              case cU => first | units_room | decide
              intro v9 new9 h9 tk9 F9 N9 off9 hD9
              refine foldP fun G hG => ?_
              obtain ⟨l, ol, inner, zr1, zr2, hoff, hlo, hfam⟩ := hD9
              refine hG ?_
              clear hG G
              subst zr1
              subst zr2
              clear lF lN
              (try dsimp only)
              k_sweep
              k_steps
              refine Hold.out ?_
              (rename Fr _ _ _ _ => lF); (rename News _ _ _ _ => lN)
              k_dflt (refine' (c_leads _ _ ((l, ol) :: inner) l ol (callsOf kept) (fun p hp => List.mem_append_left _ hp) (List.mem_cons_self ..) hlo (hfam.mono fun p hp => List.mem_cons_of_mem _ hp) (calls_K6 fun r hr => (hko r hr).2)).use _ _ _ _ _ _ _ _ _ _ _ _ _ _ _ _ _ _ _ _ _ ?cB lF ?cX lN lT ?cK ?cD ?cU ?_)
              case cB => exact hB
              case cX => assumption
              case cK => exact rfl
              case cD => first | ktr_room | decide
              case cU => first | units_room | decide
              intro v8 new8 h8 tk8 F8 N8 off8 hD8
              refine foldP fun G hG => ?_
              obtain ⟨l2, ol2, inner2, zr1, zr2, hlo2, hfam2⟩ := hD8
              refine hG ?_
              clear hG G
              subst zr1
              subst zr2
              clear lF lN
              (try dsimp only)
              k_sweep
              k_steps
              refine Hold.out ?_
              (rename News _ _ _ _ => lN)
              rw [← List.append_assoc] at lN
              obtain ⟨R4, lN4, hRk4, hR34, hX4⟩ := pack lN (apc_mk q5 q4 q3 q2 q1) (fun p hp k hk => by
                rcases List.mem_append.mp hp with hp | hp
                · exact (off8 k (List.mem_append_right _ (List.mem_append_left _ hk)) p hp).symm
                · exact (off9 k (List.mem_append_left _ hk) p hp).symm)
              have hXl : (l, ol) ∈ R4 := hX4 _ (List.mem_append_right _ (List.mem_cons_self ..))
              have hXl2 : (l2, ol2) ∈ R4 := hX4 _ (List.mem_append_left _ (List.mem_cons_self ..))
              have hfC := hfam.mono (inner' := R4) fun p hp => hX4 _ (List.mem_append_right _ (List.mem_cons_of_mem _ hp))
              have hfL := hfam2.mono (inner' := R4) fun p hp => hX4 _ (by
                rcases List.mem_append.mp hp with hp | hp
                · exact List.mem_append_left _ (List.mem_cons_of_mem _ hp)
                · exact List.mem_append_right _ hp)
              have hKk4 : (Dk, LCg.lst zs) ∈ R4 := hR34 _ hKk3
              have hKd4 : DatAll R4 zs (kept.map clD) := DatAll.mono hR34 hKd3
              clear lN hfam hfam2 hKk3 hKd3 hRr hRd q5 q4 q3 q2 q1 off8 off9 hX4 hR34 mr
              refine foldP fun G hG => ?_
              obtain ⟨q5, q4, q3, q2, q1⟩ := apc_open hRk4
              refine hG ?_
              clear hG G
              have mk1 : Mark 1 := rfl
              k_steps
              refine Hold.out ?_
              (rename News _ _ _ _ => lN)
              obtain ⟨kv6, hd6, hl6⟩ := fam_six hfL
              refine dict_ne lN (List.mem_cons_of_mem _ (List.mem_append_right [_, _, _, _, _] hXl2)) (List.mem_cons_self ..) hlo2 (by assumption) hd6 hl6 (by assumption) (by first | units_room | decide) ?_
              k_steps
              refine Hold.out ?_
              have mDk : ∀ k6 k5 k4 k3 k2 k1 : Addr × Obj, (Dk, LCg.lst zs) ∈ k6 :: k5 :: k4 :: k3 :: k2 :: k1 :: R4 := fun _ _ _ _ _ _ => by simp [hKk4]
              (rename Fr _ _ _ _ => lF); (rename News _ _ _ _ => lN)
              k_dflt (refine' (c_ways _ _ _ Dk _ zs kept (fun p hp => hp) (mDk _ _ _ _ _ _) (DatAll.mono (fun p hp => by simp [hp]) hKd4) (fun r hr => ⟨by have := (hko r hr).1; omega, (hko r hr).2⟩) hkl).use _ _ _ _ _ _ _ _ _ _ _ _ _ _ _ _ _ _ _ _ _ ?cB lF ?cX lN lT ?cK ?cD ?cU ?_)
              case cB => exact hB
              case cX => assumption
              case cK => exact rfl
              case cD => first | ktr_room | decide
              case cU => first | units_room | decide
              intro v8 new8 h8 tk8 F8 N8 off8 hD8
              refine foldP fun G hG => ?_
              obtain ⟨rw8, vw, nw8, zr1, mw8, hvw8⟩ := lst_open hD8
              refine hG ?_
              clear hG G
              subst zr1
              clear lF lN
              (try dsimp only)
              k_sweep
              k_steps
              refine Hold.out ?_
              (rename News _ _ _ _ => lN)
              obtain ⟨R5, lN5, hRk5, hR45, hX5⟩ := pack (X := new8) (fun p hp => lN p (by
                rcases List.mem_append.mp hp with hp | hp
                · exact List.mem_append_left _ hp
                · exact List.mem_append_right _ (List.mem_cons_of_mem _ hp))) (apc_mk q5 q4 q3 q2 q1) (fun p hp k hk => (off8 k (List.mem_cons_of_mem _ (List.mem_append_left _ hk)) p hp).symm)
              have hCl : (l, ol) ∈ R5 := hR45 _ hXl
              have hLl : (l2, ol2) ∈ R5 := hR45 _ hXl2
              have hfC5 := hfC.mono hR45
              have hfL5 := hfL.mono hR45
              have hKk5 : (Dk, LCg.lst zs) ∈ R5 := hR45 _ hKk4
              have hKd5 : DatAll R5 zs (kept.map clD) := DatAll.mono hR45 hKd4
              have hWl : (rw8, listOf vw.toArray nw8) ∈ R5 := hX5 _ mw8
              have hWd : DatAll R5 vw ((waysOf kept).map fun i => clD (heldOf i)) := DatAll.mono hX5 hvw8
              clear lN hfC hfL hKk4 hKd4 hXl hXl2 q5 q4 q3 q2 q1 off8 hX5 hR45 mw8 hvw8 hD8 mDk
              refine foldP fun G hG => ?_
              obtain ⟨q5, q4, q3, q2, q1⟩ := apc_open hRk5
              refine hG ?_
              clear hG G
              have mk2 : Mark 2 := rfl
              k_steps
              refine Hold.out ?_
              rename IsRange _ _ _ _ _ _ _ _ => lR
              (rename Fr _ _ _ _ => lF); (rename News _ _ _ _ => lN)
              generalize hFd : leadsOf (callsOf kept) = FL at *
              have hFd2 : Hold (leadsOf (callsOf kept) = FL) := hFd
              clear hFd
              k_dflt (refine SrcStep.intro 3 (by rfl) lF lN lR (by decide) (by decide) (by exact Nat.le_of_ble_eq_true rfl) ?_)
              intro g1
              refine compRestT_each (fun i ys nw => nw = _ ∧ (∃ ns, IntsAre ys ns) ∧ (ys = [] ↔ (List.range i).any (bothB FL) = false)) (fun i ys nw v I oI C oC D m2 h tk E' hi hK hv hC hx F N off ne => ?_) ⟨rfl, ⟨[], .nil⟩, by simp⟩ (fun ys nw hK => ?_)
              · obtain ⟨t9, rfl⟩ := hv
                refine foldP fun G hG => ?_
                obtain ⟨zr1, ⟨ns, hns⟩, hiff⟩ := hK
                refine hG ?_
                clear hG G
                subst zr1
                have hidx : (0 : Int) + (i : Int) * 2 = ((2 * i : Nat) : Int) := by omega
                rw [hidx] at hx
                refine foldP fun G hG => ?_
                obtain ⟨kvL, hdL, hlL, hfLL⟩ := hfL5
                obtain ⟨d0, od0, v0, m0, ⟨lo0, kv0, hd0, hf0⟩, _⟩ := hfLL (2 * i) (by omega)
                obtain ⟨d1, od1, v1, m1, ⟨lo1, kv1, hd1, hf1⟩, _⟩ := hfLL (2 * i + 1) (by omega)
                refine hG ?_
                clear hG G
                have N2 : News _ _ _ ((d0, od0) :: (d1, od1) :: (l2, ol2) :: _) := fun p hp => by
                  rcases List.mem_cons.mp hp with rfl | hp
                  · exact N _ (by simp [m0])
                  · rcases List.mem_cons.mp hp with rfl | hp
                    · exact N _ (by simp [m1])
                    · rcases List.mem_cons.mp hp with rfl | hp
                      · exact N _ (by simp [hLl])
                      · exact N p hp
                have hK2 : 2 * i + 1 < 6 := by omega
                have hsn := any_snoc FL i
                clear N lF lN lR hidx
                have hbb : bothB FL i = (hasL FL (2 * i + 1) (2 * i) && hasL FL (2 * i) (2 * i + 1)) := rfl
                generalize hk0 : 2 * i = k0 at *
                cases hb1 : hasL FL (k0 + 1) k0 <;> cases hb0 : hasL FL k0 (k0 + 1) <;> (rw [hb1, hb0] at hbb; unfold hasL at hb1 hb0)
                all_goals
                  k_steps
                  refine Hold.out ?_
                  (rename Fr _ _ _ _ => lF); (rename News _ _ _ _ => lN)
                  refine compEnd_new (new := []) lF (fun p hp => lN p (List.mem_cons_of_mem _ (List.mem_cons_of_mem _ (List.mem_cons_of_mem _ hp)))) off (fun q _ p hp => nomatch hp) trivial ⟨rfl, ?_, ?_⟩
                  · first | exact ⟨ns, hns⟩ | exact ⟨ns ++ [(k0 : Int)], hns.append (.cons _ _ .nil)⟩
                  · rw [hsn, hbb]
                    simp [hiff]
              · refine foldP fun G hG => ?_
                obtain ⟨zr1, ⟨ns, hns⟩, hiff⟩ := hK
                refine hG ?_
                clear hG G
                subst zr1
                clear lF lN lR
                generalize hbk : (List.range 3).any (bothB FL) = bk at hiff
                have hnn : ns = [] ↔ ys = [] := by
                  constructor
                  · rintro rfl; cases hns; rfl
                  · rintro rfl; cases hns; rfl
                have hiff2 : ¬ ns = [] ↔ bk = true := by
                  rw [hnn, hiff]
                  simp
                clear hiff hnn
                have hbk2 : Hold ((List.range 3).any (bothB FL) = bk) := hbk
                clear hbk
                unfold LCg.FinE
                intro Db h tk F N ok1
                k_steps
                refine Hold.out ?_
                (rename Fr _ _ _ _ => lF); (rename News _ _ _ _ => lN)
                refine neI (r := bk) lN (List.mem_cons_of_mem _ (List.mem_cons_self ..)) hns (List.mem_cons_self ..) .nil (by first | units_room | decide) hiff2 ?_
                clear hiff2 hns
                k_steps
                refine Hold.out ?_
                (rename Fr _ _ _ _ => lF)
                refine For_turns lF ?_ (by intro _; rfl) (by passes_own)
                k_steps
                refine Hold.out ?_
                rename IsRange _ _ _ _ _ _ _ _ => lR
                (rename Fr _ _ _ _ => lF); (rename News _ _ _ _ => lN)
                have lN5 : News _ _ _ (_ :: _ :: _ :: _ :: _ :: R5) := fun p hp => lN p (List.mem_cons_of_mem _ (List.mem_cons_of_mem _ hp))
                clear lN
                k_dflt (refine' iter_range (n := 6) JLaw ?F ?N ?hh ?hr ?hb ?hz ?j ?turn ?done)
                case F => exact lF
                case N => exact lN5
                case hh => rfl
                case hr => exact lR
                case hb => rfl
                case hz => omega
                case j => exact ⟨_, _, _, _, _, _, _, _, _, _, rfl, names5 _ _ _ _ _, rfl, by with_reducible assumption, by with_reducible assumption⟩
                case turn =>
                  clear lF lN5 lR
                  intro i m nw hi hJ
                  apply hJ.on
                  clear hJ
                  intro q o5 o4 x5 x4 hc5 hc4 I t h tk oI l1 hI F N
                  have l1o := l1
                  k_lt l1
                  have lI := l1
                  (try dsimp only)
                  (try walk_at "FOLD")
                  k_steps
                  refine Hold.out ?_
                  (rename Fr _ _ _ _ => lF)
                  refine For_turns lF ?_ (by intro _; rfl) (by passes_own)
                  k_steps
                  refine Hold.out ?_
                  have hP1 : ∀ j, j < 6 → hasL FL i (opp j) = hasL FL j (opp i) := fun j hj => by
                    have := law_skew hko hi hj
                    rw [show leadsOf (callsOf kept) = FL from hFd2] at this
                    exact this
                  have hP2 : ∀ j, j < 6 → opp i ≠ j → (bk || hasL FL j (opp i) || hasL FL i (opp i) || hasL FL j (opp j)) = heldN kept i j := fun j hj hij => by
                    have := law_told hko hi hj hij
                    rw [show leadsOf (callsOf kept) = FL from hFd2] at this
                    rw [show (List.range 3).any (bothB FL) = bk from hbk2] at this
                    exact this
                  rename IsRange _ _ _ _ _ _ _ _ => lR
                  (rename Fr _ _ _ _ => lF); (rename News _ _ _ _ => lN)
                  k_dflt (refine' iter_range_from (i₀ := i) (n := 6) JLawI ?iF ?iN ?ihh ?ihr ?iha ?ihb ?ihin ?ihz ?ij ?iturn ?idone)
                  case iF => exact lF
                  case iN => exact lN
                  case ihh => rfl
                  case ihr => exact lR
                  case iha => rfl
                  case ihb => rfl
                  case ihin => omega
                  case ihz => omega
                  case ij => exact ⟨_, _, _, _, _, _, _, _, _, _, _, _, rfl, names4j _ _ _ _, rfl, by with_reducible assumption, by with_reducible assumption⟩
                  case iturn =>
                    clear lF lN lR
                    intro j m nw hj hJ
                    apply hJ.on
                    clear hJ
                    intro q' o5' o4' x5' x4' hc5' hc4' I2 t2 h tk2 oI2 l2' hI2 F N
                    have l2o := l2'
                    k_lt l2'
                    have lI2 := l2'
                    refine foldP fun G hG => ?_
                    obtain ⟨kvL, hdL, hlL, hfLL⟩ := hfL5
                    obtain ⟨di, odi, vi, mi, ⟨loi, kvi, hdi, hfi⟩, _⟩ := hfLL i hi
                    obtain ⟨dj, odj, vj, mj, ⟨loj, kvj, hdj, hfj⟩, _⟩ := hfLL j hj
                    have di5 := q5 _ mi
                    have di4 := q4 _ mi
                    have di3 := q3 _ mi
                    have dj5 := q5 _ mj
                    have dj4 := q4 _ mj
                    have dj3 := q3 _ mj
                    have dl5 := q5 _ hLl
                    have dl4 := q4 _ hLl
                    obtain ⟨b2, hb2⟩ : ∃ b, kdpHas (FL j) (sgk (opp i)) = b := ⟨_, rfl⟩
                    obtain ⟨b3, hb3⟩ : ∃ b, kdpHas (FL i) (sgk (opp i)) = b := ⟨_, rfl⟩
                    obtain ⟨b4, hb4⟩ : ∃ b, kdpHas (FL j) (sgk (opp j)) = b := ⟨_, rfl⟩
                    refine hG ?_
                    clear hG G
                    have hb1 : kdpHas (FL i) (sgk (opp j)) = b2 := (hP1 j hj).trans hb2
                    have hP3 : opp i ≠ j → (bk || b2 || b3 || b4) = heldN kept i j := fun hij => by
                      have := hP2 j hj hij
                      unfold hasL at this
                      rw [hb2, hb3, hb4] at this
                      exact this
                    clear hP1 hP2
                    have N2 : News _ _ _ ((di, odi) :: (dj, odj) :: (l2, ol2) :: _) := fun p hp => by
                      rcases List.mem_cons.mp hp with rfl | hp
                      · exact N _ (by simp [mi])
                      · rcases List.mem_cons.mp hp with rfl | hp
                        · exact N _ (by simp [mj])
                        · rcases List.mem_cons.mp hp with rfl | hp
                          · exact N _ (by simp [hLl])
                          · exact N p hp
                    clear N
                    (try dsimp only)
                    (try walk_at "FOLD")
                    k_steps
                    refine Hold.out ?_
                    refine ne_same ?_
                    clear hb1
                    k_steps
                    refine Hold.out ?_
                    refine hub (bk || b2 || b3 || b4) ?_ fun tk9 => ?_
                    · clear hP3
                      rcases or_tree bk b2 b3 b4 with rfl | ⟨rfl, rfl⟩ | ⟨rfl, rfl, rfl⟩ | ⟨rfl, rfl, rfl, rfl⟩ | ⟨rfl, rfl, rfl, rfl⟩
                      all_goals
                        refine BoolOp_or ?_
                        k_steps
                        exact ⟨_, rfl, rfl⟩
                    k_steps
                    refine Hold.out ?_
                    by_cases hij : opp i = j
                    · rw [hij]
                      refine ne_alike ?_
                      clear hP3
                      k_steps
                      (rename Fr _ _ _ _ => lF); (rename News _ _ _ _ => lN)
                      refine' unr_end lF lN (fun p hp => .tail _ (.tail _ (.tail _ (.tail _ hp)))) (lt_three l2o) ⟨trivial, _, _, _, _, _, _, _, _, _, _, _, _, rfl, ov4 fun y h1 h2 h3 h4 => ?nm, rfl, ?d5, ?d4⟩
                      case d5 => with_reducible assumption
                      case d4 => with_reducible assumption
                      case nm => simp only [if_neg h1, if_neg h2, if_neg h3, if_neg h4]
                    · refine ne_diff (opp_lt hi) hj hij ?_
                      replace hP3 := hP3 hij
                      k_steps
                      refine Hold.out ?_
                      (rename Fr _ _ _ _ => lF); (rename News _ _ _ _ => lN)
                      have hwl : vw.length = (waysOf kept).length := by have := hWd.length; simpa using this
                      have hw8 := ways_len kept
                      k_dflt (refine LCt.CompSrcT.ledger (by rfl) lF lN (show (rw8, listOf vw.toArray nw8) ∈ _ from .tail _ (.tail _ (.tail _ (.tail _ (.tail _ (.tail _ (.tail _ (.tail _ (.tail _ (.tail _ (.tail _ hWl))))))))))) (by simp only [List.size_toArray]; exact short_line (by omega)) ?_)
                      intro g9
                      refine compRestT_each (fun k ys nw => nw = _ ∧ DatAll R5 ys ((((waysOf kept).take k).filter fun x => !heldB x i && !heldB x j).map fun x => clD (heldOf x))) (fun k ys nw v I9 oI9 C9 oC9 D9 m9 h9 tk9 E9 hk hK hv hC hx F9 N9 off9 ne9 => ?_) ⟨rfl, .nil⟩ (fun ys nw hK => ?_)
                      · obtain ⟨rfl, hys⟩ := hK
                        have hk' : k < (waysOf kept).length := by rw [List.size_toArray] at hk; omega
                        have hD := dat_map (v := v) hWd (by simpa using hv) hk'
                        have htk := ways_take (l := waysOf kept) (k := k) hk' (p := fun x => !heldB x i && !heldB x j) (f := fun x => clD (heldOf x))
                        generalize (waysOf kept)[k] = x at hD htk
                        refine foldP fun G hG => ?_
                        obtain ⟨a, zs, nz, zr1, ma, hzs⟩ := cl_open hD
                        refine hG ?_
                        clear hG G
                        subst zr1
                        have N3 : News _ _ _ ((a, listOf zs.toArray nz) :: _) := fun p hp => by
                          rcases List.mem_cons.mp hp with rfl | hp
                          · exact N9 _ (by simp [ma])
                          · exact N9 p hp
                        clear N9 lF lN hv
                        k_steps
                        refine Hold.out ?_
                        have hzs' : ∀ q : Led, (∀ p ∈ R5, p ∈ q) → DatAll q zs ((heldOf x).map fun k => .str (sgk k)) := fun q hq => DatAll.mono hq hzs
                        (rename News _ _ _ _ => lN)
                        refine notInL (r := heldB x i) (xs := zs) lN (by k_mem) (hzs' _ fun p hp => by simp [hp]) (.str _ _) (txt_ok (heldOf_lt x)) (okT (sgk_tx hi)) (by first | units_room | decide) heldB_iff' ?_
                        cases hbi : heldB x i with
                        | true =>
                          rw [hbi] at htk
                          rw [show (!true && !heldB x j) = false from rfl, if_neg Bool.false_ne_true, List.append_nil] at htk
                          k_steps
                          refine Hold.out ?_
                          (rename Fr _ _ _ _ => lF); (rename News _ _ _ _ => lN)
                          refine compEnd_new (new := []) lF (fun p hp => lN p (List.mem_cons_of_mem _ hp)) off9 (fun q _ p hp => nomatch hp) (Or.inr ⟨_, .tail _ (.tail _ (.tail _ (.tail _ (.tail _ (.tail _ (.tail _ (.tail _ (.tail _ (.tail _ (.tail _ hWl)))))))))), rfl, _, rfl⟩) ⟨rfl, ?_⟩
                          rw [htk]
                          exact hys
                        | false =>
                          k_steps
                          refine Hold.out ?_
                          (rename News _ _ _ _ => lN)
                          refine notInL (r := heldB x j) (xs := zs) lN (by k_mem) (hzs' _ fun p hp => by simp [hp]) (.str _ _) (txt_ok (heldOf_lt x)) (okT (sgk_tx hj)) (by first | units_room | decide) heldB_iff' ?_
                          cases hbj : heldB x j with
                          | true =>
                            rw [hbi, hbj] at htk
                            rw [show (!false && !true) = false from rfl, if_neg Bool.false_ne_true, List.append_nil] at htk
                            k_steps
                            refine Hold.out ?_
                            (rename Fr _ _ _ _ => lF); (rename News _ _ _ _ => lN)
                            refine compEnd_new (new := []) lF (fun p hp => lN p (List.mem_cons_of_mem _ hp)) off9 (fun q _ p hp => nomatch hp) (Or.inr ⟨_, .tail _ (.tail _ (.tail _ (.tail _ (.tail _ (.tail _ (.tail _ (.tail _ (.tail _ (.tail _ (.tail _ hWl)))))))))), rfl, _, rfl⟩) ⟨rfl, ?_⟩
                            rw [htk]
                            exact hys
                          | false =>
                            rw [hbi, hbj] at htk
                            rw [show (!false && !false) = true from rfl, if_pos rfl] at htk
                            k_steps
                            refine Hold.out ?_
                            (rename Fr _ _ _ _ => lF); (rename News _ _ _ _ => lN)
                            refine compEnd_new (new := []) lF (fun p hp => lN p (List.mem_cons_of_mem _ hp)) off9 (fun q _ p hp => nomatch hp) (Or.inr ⟨_, .tail _ (.tail _ (.tail _ (.tail _ (.tail _ (.tail _ (.tail _ (.tail _ (.tail _ (.tail _ (.tail _ hWl)))))))))), rfl, _, rfl⟩) ⟨rfl, ?_⟩
                            rw [htk]
                            exact hys.append (.cons hD .nil)
                      · obtain ⟨rfl, hys⟩ := hK
                        rw [show vw.toArray.size = (waysOf kept).length by rw [List.size_toArray]; exact hwl, List.take_length] at hys
                        clear lF lN
                        unfold LCg.FinE
                        intro Dh h tk F N ok1
                        have hok2 : ∀ d ∈ (((waysOf kept).filter fun x => !heldB x i && !heldB x j).map fun x => clD (heldOf x)), kqdOk 8 d = true := fun d hd => by
                          obtain ⟨x, _, rfl⟩ := List.mem_map.mp hd
                          exact cl_ok (heldOf_lt x)
                        k_steps
                        refine Hold.out ?_
                        (rename News _ _ _ _ => lN)
                        refine eqL (r := heldN kept i j) (xs := ys) (ys := []) lN (List.mem_cons_of_mem _ (List.mem_cons_self ..)) (DatAll.mono (fun p hp => by simp [hp]) hys) (List.mem_cons_self ..) .nil hok2 (fun _ hd => nomatch hd) (by first | units_room | decide) held_nil ?_
                        rw [← hP3]
                        k_steps
                        refine Hold.out ?_
                        refine ne_same ?_
                        k_steps
                        (rename Fr _ _ _ _ => lF); (rename News _ _ _ _ => lN)
                        refine' unr_end lF lN (fun p hp => .tail _ (.tail _ (.tail _ (.tail _ (.tail _ (.tail _ hp)))))) (lt_three l2o) ⟨trivial, _, _, _, _, _, _, _, _, _, _, _, _, rfl, ov4 fun y h1 h2 h3 h4 => ?nm, rfl, ?d5, ?d4⟩
                        case d5 => with_reducible assumption
                        case d4 => with_reducible assumption
                        case nm => simp only [if_neg h1, if_neg h2, if_neg h3, if_neg h4]
                  case idone =>
                    clear lF lN lR hP1 hP2
                    intro m nw hJ
                    apply hJ.on
                    clear hJ
                    intro q' o5' o4' x5' x4' hc5' hc4' h tk F N
                    (try dsimp only)
                    (try walk_at "FOLD")
                    k_steps
                    refine unr_end F N (fun _ h => h) (lt_two l1o) ⟨trivial, _, _, _, _, _, _, _, _, _, _, rfl, ov5 fun y h1 h2 h3 h4 h5 => ?_, rfl, hc5', hc4'⟩
                    simp only [if_neg h1, if_neg h2, if_neg h3, if_neg h4, if_neg h5]
                case done =>
                  clear lF lN5 lR
                  intro m nw hJ
                  apply hJ.on
                  clear hJ
                  intro q o5 o4 x5 x4 hc5 hc4 h tk F N
                  (try dsimp only)
                  (try walk_at "FOLD")
                  k_steps
                  refine Hold.out ?_
                  (rename Fr _ _ _ _ => lF)
                  refine For_turns lF ?_ (by intro _; rfl) (by passes_own)
                  k_steps
                  refine Hold.out ?_
                  (rename Fr _ _ _ _ => lF); (rename News _ _ _ _ => lN)
                  k_dflt (refine' iter_str JSign ?F ?N ?hh ?ha ?j ?turn ?done)
                  case F => exact lF
                  case N => exact lN
                  case hh => rfl
                  case ha => decide +kernel
                  case j => exact ⟨_, _, _, _, _, _, _, _, List.range 6, rfl, names1 _, rfl, by with_reducible assumption, row_chk, fun k hk => List.mem_range.mp hk⟩
                  case turn =>
                    clear lF lN
                    intro c r m nw hJ
                    apply hJ.on
                    clear hJ
                    intro q' o4' x4' is hc4' hr his I t h tk oI l1 hI F N
                    match is, hr with
                    | k :: is', hr =>
                      injection hr with hc hr5
                      subst hc
                      have hk6 := his k (List.mem_cons_self ..)
                      rw [sg1_chk hk6]
                      have l1o := l1
                      k_lt l1
                      refine foldP fun G hG => ?_
                      obtain ⟨kvC, hdC, hlC, hfCC⟩ := hfC5
                      obtain ⟨dk, odk, vk, mk, hDk, _⟩ := hfCC k hk6
                      refine hG ?_
                      clear hG G
                      have dk4 := q4 _ mk
                      have dl4 := q4 _ hCl
                      have dz4 := q4 _ hKk5
                      have N2 : News _ _ _ ((Dk, LCg.lst zs) :: (dk, odk) :: (l, ol) :: _) := fun p hp => by
                        rcases List.mem_cons.mp hp with rfl | hp
                        · exact N _ (by simp [hKk5])
                        · rcases List.mem_cons.mp hp with rfl | hp
                          · exact N _ (by simp [mk])
                          · rcases List.mem_cons.mp hp with rfl | hp
                            · exact N _ (by simp [hCl])
                            · exact N p hp
                      clear N
                      (try dsimp only)
                      (try walk_at "FOLD")
                      k_steps
                      refine Hold.out ?_
                      (rename Fr _ _ _ _ => lF); (rename News _ _ _ _ => lN)
                      k_dflt (refine' (c_count _ _ dk odk (callsOf kept k) (.tail _ (List.mem_cons_self ..)) hDk).use _ _ _ _ _ _ _ _ _ _ _ _ _ _ _ _ _ _ _ _ _ ?cB lF ?cX lN lT ?cK ?cD ?cU ?_)
                      case cB => exact hB
                      case cX => assumption
                      case cK => exact rfl
                      case cD => first | ktr_room | decide
                      case cU => first | units_room | decide
                      intro v9 new9 h9 tk9 F9 N9 off9 hD9
                      obtain ⟨rfl, t9, rfl⟩ := hD9
                      rw [List.nil_append] at N9
                      clear lF lN
                      (try dsimp only)
                      k_sweep
                      k_steps
                      refine Hold.out ?_
                      (rename News _ _ _ _ => lN)
                      refine lenL (xs := zs) lN (List.mem_cons_self ..) (by omega) fun t8 tk8 => ?_
                      rw [hzl]
                      k_steps
                      refine Hold.out ?_
                      rename IsRange _ _ _ _ _ _ _ _ => lR
                      (rename Fr _ _ _ _ => lF); (rename News _ _ _ _ => lN)
                      k_dflt (refine LCg.CompSrc.range (n := kept.length) (by rfl) lF lN lR (small_one (by decide) (by decide) (by omega) (by omega)) (by rw [rangeSize_nat]; congr 1) (short_line (by omega)) ?_)
                      intro g9
                      refine compRest_ints (fun i => cntAt kept k i) (fun i ys v I9 oI9 C9 oC9 D9 m9 h9 tk9 E9 hi hv hC hx F9 N9 off9 ne9 => ?_) (fun ys hys => ?_)
                      · obtain ⟨t9, rfl⟩ := hv
                        obtain ⟨v', hv', hD⟩ := hKd5.get (k := i) (by simpa using hi)
                        rw [List.getElem_map] at hD
                        have hr9 : kept.getD i [] = kept[i] := by rw [List.getD_eq_getElem?_getD, List.getElem?_eq_getElem hi]; rfl
                        have hcn : cntAt kept k i = ((i : Int) + 1) * countIn (.str (sgk k)) ((kept[i].map sgk).map PyData.str) := by rw [cntAt, hr9]
                        generalize kept[i] = rr at hD hcn
                        refine foldP fun G hG => ?_
                        obtain ⟨a, ws, nz, zr1, ma, hws⟩ := cl_open hD
                        refine hG ?_
                        clear hG G
                        subst zr1
                        have hst := strs_of hws
                        have N3 : News _ _ _ ((a, listOf ws.toArray nz) :: _) := fun p hp => by
                          rcases List.mem_cons.mp hp with rfl | hp
                          · exact N9 _ (by simp [ma])
                          · exact N9 p hp
                        clear N9 lF lN lR
                        k_steps
                        refine Hold.out ?_
                        (rename News _ _ _ _ => lN)
                        refine subL (xs := zs) (D := Dk) (n := _) lN (by k_mem) (by omega) (by omega) (by omega) (fun x hx9 => ?_) (by with_unfolding_all rfl)
                        rw [show (0 + (i : Int)).toNat = i by omega] at hx9
                        obtain rfl : Value.ref a = x := Option.some.inj (hv'.symm.trans hx9)
                        k_steps
                        refine Hold.out ?_
                        (rename Fr _ _ _ _ => lF); (rename News _ _ _ _ => lN)
                        exact compEnd_new (new := []) lF (fun p hp => lN p (List.mem_cons_of_mem _ hp)) off9 (fun q _ p hp => nomatch hp) trivial ⟨⟨_, by rw [hcn, Int.zero_add]⟩, rfl⟩
                      · clear lF lN lR
                        unfold LCg.FinE
                        intro Ds h tk F N ok1
                        k_steps
                        refine Hold.out ?_
                        rw [law_tot hko hk6]
                        refine ne_int ?_
                        rw [bne_self_eq_false]
                        k_steps
                        (rename Fr _ _ _ _ => lF); (rename News _ _ _ _ => lN)
                        refine' unr_end lF lN (fun p hp => .tail _ (.tail _ (.tail _ (.tail _ hp)))) (lt_two l1o) ⟨trivial, _, _, _, _, _, _, _, _, is', rfl, ov1 fun y h1 => ?nm, rfl, ?d4, hr5, fun k' hk' => his k' (.tail _ hk')⟩
                        case d4 => with_reducible assumption
                        case nm => simp only [if_neg h1]
                  case done =>
                    clear lF lN
                    intro m nw hJ
                    apply hJ.on
                    clear hJ
                    intro q' o4' x4' is hc4' hr his h tk F N
                    (try dsimp only)
                    (try walk_at "FOLD")
                    k_steps
                    subst ehb eg0 edr0 eos0
                    k_steps
)
end
end Mine
theorem PySem.Challenge.cw_jc0002_01_holds : PySem.Challenge.rw_jc0002_01.Holds := by
  exact Mine.law_all
