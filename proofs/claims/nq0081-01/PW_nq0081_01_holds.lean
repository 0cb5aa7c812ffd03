import PyProof.Rows.All
import Wide.All
import OpenK.AllK
import Wide.FinOn
import PySem.Challenge.RW_nq0081_01
set_option Elab.async false
set_option maxRecDepth 100000
set_option maxHeartbeats 8000000
section
open PySem PySem.W PyProof.Rows
namespace Mine
open_top hd for PySem.Challenge.rw_nq0081_01
end Mine
end
section
open PySem PySem.W PyProof.Rows PySem.Calls PySem.Spec
namespace Mine

noncomputable abbrev loo : List Str := looseW hd.view_39 [Str.ofString "Flags", Str.ofString "_filemode_table"]
noncomputable abbrev KH (w : World) : Frag := hd.heap_39 w.params

/-- what the top left stands in the heap -/
structure Gr (w : World) (h : Heap) : Prop where
  X : (hd.heap_39 w.params).In h
  T : ∃ mean mg mb, Top hd.view_39 loo mean mg mb h

theorem Gr.keeps {w : World} {h h' : Heap} (g : Gr w h) (k : ∀ b o, h.get? b = some o → h'.get? b = some o) : Gr w h' :=
  ⟨g.X.keeps k, let ⟨a, b, c, T⟩ := g.T; ⟨a, b, c, T.keeps k⟩⟩

/-- all old objects but those of mu are kept -/
def Ext (mu : List Addr) (h h' : Heap) : Prop := ∀ b o, b ∉ mu → h.get? b = some o → h'.get? b = some o
theorem Ext.refl {mu : List Addr} {h : Heap} : Ext mu h h := fun _ _ _ e => e
theorem Ext.trans {mu : List Addr} {h h' h'' : Heap} (a : Ext mu h h') (b : Ext mu h' h'') : Ext mu h h'' := fun x o n e => b x o n (a x o n e)
theorem Ext.gr {w : World} {h h' : Heap} (e : Ext [] h h') (g : Gr w h) : Gr w h' := g.keeps fun b o => e b o (fun h => nomatch h)

/-- a goal at which the walk halts -/
def Hold (P : Prop) : Prop := P
theorem hold {P : Prop} (h : Hold P) : P := h
theorem Hold.of {P : Prop} (h : P) : Hold P := h

theorem lookup_kst : ∀ (l : List (Str × Value)) (y : Str), l.lookup y = kstB (fun _ => none) l y
  | [], _ => rfl
  | (x, v) :: r, y => by
    rw [List.lookup_cons]
    show _ = if y = x then some v else kstB (fun _ => none) r y
    by_cases h : y = x
    · rw [if_pos h, h, beq_self_eq_true]
    · rw [if_neg h, beq_eq_false_iff_ne.mpr h]; exact lookup_kst r y

theorem enter {w : World} {dp un : Nat} {fr : Option (List Env)} {gd : Option (List Code)} {s : Shared} {f : Addr} {args : List Value} {Q E : Value → Shared → Prop} (mu : List Addr) (news : List (Addr × Obj)) (bm : List (Str × Value))
    {name qual : Str} {params : Arguments} {body : List Stmt} {scope : Scope} {dV kV doc pm cdv ct oc : Value} {an od : Option Addr} {osl : Array (Option Value)}
    (g : Gr w (hideAll s.heap mu)) (hn : ∀ p ∈ news, p.1 ∈ mu ∧ s.heap.get? p.1 = some p.2)
    (ho : (hd.heap_39 w.params).lookup f = some ⟨oc, od, .func (fnOf name qual params body scope dV kV doc pm an cdv ct), osl⟩)
    (hcd : codeIn (hd.heap_39 w.params) cdv qual = true) (hroom : dp < recursionLimit)
    (hbind : bindArgs (fnOf name qual params body scope dV kV doc pm an cdv ct) ⟨args, []⟩ = pure bm.reverse) (hloc : ∀ y ∈ bm.reverse, scope.names.lookup y.1 = some .local)
    (hco : scope.isCoroutine = false) (hgen : scope.isGenerator = false) (hk : scope.kind = .function)
    (hcell : ∀ x ∈ scope.names, x.2 ≠ .cell)
    (h : ∀ g L h₁ tk mean mg mb, Ext mu s.heap g → (∀ b o, g.get? b = some o → s.heap.get? b = some o) → s.heap.objs.size ≤ L → (hd.heap_39 w.params).In g → Top hd.view_39 loo mean mg mb g → Fr g L h₁ (kstB (fun _ => none) bm) → News g L h₁ news →
      wpAny (model PySem.Challenge.rw_nq0081_01.row.prog w) ((Around.mk none dp fr gd un).deeper (envOf qual scope L f cdv)) (execs body (envOf qual scope L f cdv))
        (fun fl s' => Q (match fl with | .ret v => v | _ => .none) s') (fun _ _ => False) { s with heap := h₁, toks := tk }) :
    wpAny (model PySem.Challenge.rw_nq0081_01.row.prog w) (Around.mk none dp fr gd un) (call (.ref f) args) Q E s := by
  obtain ⟨X, mean, mg, mb, T⟩ := g
  have hk' : ∀ b o, (hideAll s.heap mu).get? b = some o → s.heap.get? b = some o := fun b o e => of_hideAll _ e
  have X' := X.keeps hk'
  refine wpAny_call ?_
  refine codeAny_call_def (fd := fnX name qual params body scope [] dV kV doc pm an cdv ct) (body := body) (binds := bm.reverse) hroom (X' _ _ ho) rfl (T.nolimit.keeps hk') (codeRec_of X' hcd) rfl (BindsTo.of_eq hbind) hcell hloc (fun h₁ hns hk₁ => ?_) hco hgen hk
  rw [show (fun x => bm.reverse.reverse.lookup x) = kstB (fun _ => none) bm from by rw [List.reverse_reverse]; funext y; exact lookup_kst bm y] at hns
  exact wpAny_mono (h (hideAll s.heap mu) s.heap.objs.size h₁ _ mean mg mb (fun b o n e => hideAll_get _ e n) hk' (Nat.le_refl _) X T ⟨hns, fun b o e => hk₁ b o (of_hideAll _ e), Nat.le_of_eq (hideAll_size _ _)⟩
    (fun p hp => ⟨hk₁ _ _ (hn p hp).2, Nat.ne_of_lt (Heap.lt_size (hn p hp).2), hideAll_none _ (hn p hp).1⟩)) (fun _ _ y => y) fun _ _ y => y.elim

theorem gr_hide {w : World} {g h : Heap} {L : Addr} {m : Str → Option Value} {mean : ExcName → Option Value} {mg mb : Str → Option Value} (X : (hd.heap_39 w.params).In g) (T : Top hd.view_39 loo mean mg mb g) (F : Fr g L h m) (mu : List Addr) (hmu : ∀ b ∈ mu, g.get? b = none) : Gr w (hideAll h mu) :=
  Gr.keeps ⟨X, _, _, _, T⟩ fun b o e => hideAll_get _ (F.keep b o e) fun hb => by rw [hmu b hb] at e; cases e
theorem fr_after {g h h' : Heap} {L : Addr} {m : Str → Option Value} {mu : List Addr} (F : Fr g L h m) (e : Ext mu h h') (hmu : ∀ b ∈ mu, g.get? b = none) (hL : L ∉ mu) : Fr g L h' m :=
  ⟨F.ns.at' fun o x => e L o hL x, fun b o x => e b o (fun hb => by rw [hmu b hb] at x; cases x) (F.keep b o x), F.above⟩
theorem news_after {g h h' : Heap} {L : Addr} {mu : List Addr} {news news' : List (Addr × Obj)} (N : News g L h news) (e : Ext mu h h') (hn : ∀ p ∈ news', (p ∈ news ∧ p.1 ∉ mu) ∨ (h'.get? p.1 = some p.2 ∧ p.1 ≠ L ∧ g.get? p.1 = none)) : News g L h' news' :=
  fun p hp => (hn p hp).elim (fun q => ⟨e _ _ q.2 (N p q.1).1, (N p q.1).2⟩) id

theorem int_eq {i j : Int} {t : Tok} (h : i = j) : some (Value.int i t) = some (Value.int j t) := by rw [h]

/-- fills the walk's own memory of the written part -/
theorem fill : ∀ w : World, (hd.heap_39 w.params) = (hd.heap_39 w.params) ∧ PySem.Challenge.rw_nq0081_01.row.prog = PySem.Challenge.rw_nq0081_01.row.prog := by
  k_fill
  exact fun _ => ⟨rfl, rfl⟩
end Mine
end
section
open PySem PySem.W PyProof.Rows PySem.Calls PySem.Spec
namespace Mine
open PySem.Builtin

theorem slot_bytes_lt : Slot "bytes" (cmpInfo .Lt).2.1 "bytes.__lt__" :=
  .of (owner := "bytes") (n := "__lt__") (by rw [typeLookup_type, builtinLookup_eq_fast]; kernel_rfl) (by decide +kernel) (by decide +kernel) (by decide +kernel)
    (by first | exact .inl (by decide +kernel) | exact .inr (by decide +kernel)) (by rw [isSubtype_type]; kernel_rfl)
theorem entry_bytes_lt : entryFor table "bytes.__lt__" = some Builtin.«bytes.__lt__» := entryFor_of_tree (by kernel_rfl)
theorem args_bytes_lt_2 (a b : Value) : argsOk "bytes.__lt__" ⟨[a, b], []⟩ := by
  unfold argsOk; rw [signature?_of (id := "bytes.__lt__") (n := ['_', '_', 't', 'l', '_', '_']) (o := ['s', 'e', 't', 'y', 'b']) (by kernel_rfl) PySem.W.FB.owner_bytes]; kernel_rfl

theorem order_lt : ∀ a b : List UInt8, (Bytes.order a b == .lt) = decide (a < b)
  | [], [] => by decide
  | [], _ :: _ => by simp [Bytes.order]
  | _ :: _, [] => by simp [Bytes.order]
  | x :: a, y :: b => by
    simp only [Bytes.order, List.cons_lt_cons_iff]
    by_cases h1 : x < y
    · simp [h1]
    · by_cases h2 : x > y
      · have : x ≠ y := fun e => by subst e; exact absurd h2 (UInt8.lt_irrefl _)
        simp [h1, h2, this]
      · have : x = y := UInt8.le_antisymm (UInt8.not_lt.mp h2) (UInt8.not_lt.mp h1)
        simp [this, order_lt a b]

theorem gives_bytes_lt (b c : Array UInt8) (t u : Tok) : Gives («bytes.__lt__» ⟨[.bytes b t, .bytes c u], []⟩) (.val (.bool (decide (b.toList < c.toList)))) := by
  refine .of_wp fun M A E s Q hq => ?_
  show wpAny M A (isInstance (.bytes c u) (.type "bytes") >>= fun r => _) _ E s
  refine wpAny_bind (wpAny_isInstance (typeIs_bytes s c u) F.sub_bytes_bytes ?_)
  exact wpAny_pure ⟨_, rfl, by rw [← order_lt] at hq; exact hq⟩

section
variable {prog : Program} {w : World} {A : Around} {E : Value → Shared → Prop} {s : Shared}
theorem lt_bytes {b c : Array UInt8} {t u : Tok} {Q : Value → Shared → Prop} (h : Q (.bool (decide (b.toList < c.toList))) s) : wpAny (model prog w) A (compareOp .Lt (.bytes b t) (.bytes c u)) Q E s :=
  compareOp_gives (op := .Lt) (typeIs_bytes s b t) (typeIs_bytes s c u) slot_bytes_lt entry_bytes_lt (args_bytes_lt_2 _ _) (gives_bytes_lt b c t u) (fun e => nomatch e) h

/-- an item of the heap: a tuple of a text and octets -/
structure It where
  a : Addr
  s : Str
  b : Array UInt8
  ts : Tok
  tb : Tok
abbrev It.obj (i : It) : Obj := { cls := .type "tuple", data := .seq #[.str i.s i.ts, .bytes i.b i.tb] }
def It.lt (i j : It) : Bool := if i.s = j.s then decide (i.b.toList < j.b.toList) else decide (i.s.cps.toList < j.s.cps.toList)

theorem typeIs_tup {i : It} (h : s.heap.get? i.a = some i.obj) : s.TypeIs (.ref i.a) "tuple" := ⟨_, h, rfl⟩

theorem lt_tup {i j : It} {Q : Value → Shared → Prop} (hi : s.heap.get? i.a = some i.obj) (hj : s.heap.get? j.a = some j.obj) (hu : A.units < cLine) (h : Q (.bool (i.lt j)) s) :
    wpAny (model prog w) A (compareOp .Lt (.ref i.a) (.ref j.a)) Q E s := by
  show wpAny _ _ (richCompare .Lt (.ref i.a) (.ref j.a)) Q E s
  refine wpAny_richCompare_same_room (typeIs_tup hi) (typeIs_tup hj) F.slot_tuple_lt ?_ hu
  refine wpAny_call_entry F.slot_tuple_lt (typeIs_tup hi) F.entry_tuple_lt ?_ (F.args_tuple_lt_2 _ _)
  show wpAny _ _ (isInstance (.ref j.a) (.type "tuple") >>= _) _ _ s
  refine wpAny_bind (wpAny_isInstance (typeIs_tup hj) isSubtype_tuple_tuple ?_)
  simp only [Bool.not_true, Bool.false_eq_true, if_false]
  refine wpAny_bind (wpAny_tupleItemsOf hi rfl ?_)
  refine wpAny_bind (wpAny_tupleItemsOf hj rfl ?_)
  simp only [List.zip_cons_cons, List.zip_nil_right, List.forIn_cons, List.forIn_nil]
  refine wpAny_bind (wpAny_bind (wpAny_bind (wpAny_eqBool_str ?_)))
  by_cases hs : i.s = j.s
  · simp only [hs, decide_true, Bool.not_true, Bool.false_eq_true, if_false]
    refine wpAny_pure ?_
    dsimp only
    refine wpAny_bind (wpAny_bind (eqBool_bytes ?_))
    by_cases hb : i.b.toList = j.b.toList
    · simp only [hb, decide_true, Bool.not_true, Bool.false_eq_true, if_false]
      refine wpAny_pure (wpAny_pure (wpAny_pure ⟨_, rfl, (fun e => nomatch e), ?_⟩))
      have e : i.lt j = false := by unfold It.lt; rw [if_pos hs, hb]; exact decide_eq_false (List.lt_irrefl _)
      rw [e] at h
      exact h
    · simp only [hb, decide_false, Bool.not_false, if_true]
      refine wpAny_bind (wpAny_rule (wpAny_bind (lt_bytes (wpAny_bind (wpAny_pure (wpAny_pure (wpAny_pure (wpAny_pure ⟨_, rfl, (fun e => nomatch e), ?_⟩))))))))
      have e : i.lt j = decide (i.b.toList < j.b.toList) := by unfold It.lt; rw [if_pos hs]
      rw [e] at h
      exact h
  · simp only [hs, decide_false, Bool.not_false, if_true]
    refine wpAny_bind (wpAny_rule (wpAny_bind (lt_str (wpAny_bind (wpAny_pure (wpAny_pure (wpAny_pure (wpAny_pure ⟨_, rfl, (fun e => nomatch e), ?_⟩))))))))
    have e : i.lt j = decide (i.s.cps.toList < j.s.cps.toList) := by unfold It.lt; rw [if_neg hs]
    rw [e] at h
    exact h
end
end Mine
end
section
theorem Mine.offH1 : True := by
  w_top off
  trivial
open PySem PySem.W PyProof.Rows PySem.Calls PySem.Spec
namespace Mine

def refs (l : List It) : List Value := l.map fun i => .ref i.a

/-- _siftdown upon a list: x goes up from place p -/
def sdLoop (x : It) (xs : List It) (p : Nat) : List It :=
  if h : 0 < p then
    if x.lt (xs.getD ((p - 1) / 2) x) then sdLoop x (xs.set p (xs.getD ((p - 1) / 2) x)) ((p - 1) / 2) else xs.set p x
  else xs.set p x
termination_by p
decreasing_by omega

section
variable {prog : Program} {w : World} {A : Around} {E : Value → Shared → Prop} {s : Shared} {h₀ : Heap} {L D : Addr} {m : Str → Option Value} {rest : List (Addr × Obj)} {vs : List Value} {n : Nat} {k : Int} {t : Tok} {v : Value}
theorem set_list {Q : Unit → Shared → Prop} (F : Fr h₀ L s.heap m) (N : News h₀ L s.heap ((D, listOf vs.toArray n) :: rest)) (hr : ∀ p ∈ rest, p.1 ≠ D) (h0 : 0 ≤ k) (h1 : k < vs.length) (hfit : k < 2 ^ 63)
    (h : ∀ h', Fr h₀ L h' m → News h₀ L h' ((D, listOf (vs.set k.toNat v).toArray n) :: rest) → Q () { s with heap := h' }) :
    wpAny (model prog w) A (setItem (.ref D) (.int k t) v) Q E s := by
  have z := N (D, listOf vs.toArray n) (.head _)
  refine ki_setAt z.1 h0 hfit (by rw [List.size_toArray]; omega) (h _ (F.change (Heap.SameBut.update ..) z.2.1 z.2.2) (ki_turn (pre := []) _ N (fun _ h => nomatch h) hr ?_ ?_))
  · show vs.toArray.setIfInBounds k.toNat v = (vs.set k.toNat v).toArray
    apply Array.toList_inj.mp
    simp
  · simp
theorem sub_list {value slice : PySem.Expr} {Q : Value → Shared → Prop} (N : News h₀ L s.heap ((D, listOf vs.toArray n) :: rest)) (h0 : 0 ≤ k) (hfit : k < 2 ^ 63) (hx : vs[k.toNat]? = some v) (h : Q v s)
    (hs : subscripted slice false (.ref D) (.int k t) = operate [.ref D, .int k t] (getItem (.ref D) (.int k t)) := by with_unfolding_all rfl) (hg : ∀ r, letTemporaryGo value (.ref D) r = pure () := by intro _; with_unfolding_all rfl) :
    wpAny (model prog w) A (subscriptTail value slice (.ref D) (.int k t)) Q E s := kim_list N (.head _) rfl rfl h0 hfit hx h hs hg
end
theorem refs_get {l : List It} {p : Nat} {x : It} (h : l[p]? = some x) : (refs l)[p]? = some (.ref x.a) := by
  unfold refs; rw [List.getElem?_map, h]; rfl

theorem refs_len (l : List It) : (refs l).length = l.length := by unfold refs; simp
theorem refs_set (l : List It) (p : Nat) (x : It) : (refs l).set p (.ref x.a) = refs (l.set p x) := by unfold refs; rw [List.map_set]

local macro_rules | `(tactic| walk_at "exec While Compare cons nil") => `(tactic| refine Mine.hold ?_)
local macro_rules | `(tactic| walk_at "KswEnd") => `(tactic| refine Mine.hold ?_)
local macro_rules | `(tactic| walk_at "call ref") => `(tactic| refine Mine.hold ?_)
theorem fill2 : ∀ w : World, (hd.heap_39 w.params) = (hd.heap_39 w.params) ∧ PySem.Challenge.rw_nq0081_01.row.prog = PySem.Challenge.rw_nq0081_01.row.prog := by
  k_fill
  exact fun _ => ⟨rfl, rfl⟩

theorem siftdown_spec : ∀ (w : World) (dp un : Nat) (fr : Option (List Env)) (gd : Option (List Code)) (s : Shared) (Q E : Value → Shared → Prop) (H n : Nat) (its : List It) (x : It) (p : Nat) (ts tp : Tok),
    Gr w (hideAll s.heap [H]) → s.heap.get? H = some (listOf (refs its).toArray n) → (∀ i ∈ its, s.heap.get? i.a = some i.obj ∧ i.a ≠ H) → its[p]? = some x → its.length < 1000 → dp + 1 < recursionLimit → un + 30 < cLine →
    (∀ h' tk, Ext [H] s.heap h' → h'.get? H = some (listOf (refs (sdLoop x its p)).toArray n) → Q .none { s with heap := h', toks := tk }) →
    wpAny (model PySem.Challenge.rw_nq0081_01.row.prog w) (Around.mk none dp fr gd un) (call (.ref 71) [.ref H, .int 0 ts, .int p tp]) Q E s := by
  intro w dp un fr gd s Q E H n its x p ts tp g hH hit hx hlen hdp hun hQ
  refine' enter [H] [(H, listOf (refs its).toArray n)] [(Str.ofString "pos", .int p tp), (Str.ofString "startpos", .int 0 ts), (Str.ofString "heap", .ref H)] g ?hn ?ho ?hcd ?room ?bind ?loc ?c2 ?c3 ?c4 ?c5 ?_
  case hn => intro q hq; rcases List.mem_cons.mp hq with rfl | hq; exact ⟨List.mem_singleton.mpr rfl, hH⟩; cases hq
  case ho => k_is
  case hcd => k_is
  case room => omega
  case bind => exact rfl
  case loc => exact locs rfl
  case c2 => exact rfl
  case c3 => exact rfl
  case c4 => exact rfl
  case c5 => decide
  intro g0 L h1 tk1 mean mg mb hext hsub hL X T F N
  have hat : ∀ i ∈ its, ∀ h m, Fr g0 L h m → h.get? i.a = some i.obj := fun i hi h m F => F.keep _ _ (hext _ _ (by simpa using (hit i hi).2) (hit i hi).1)
  k_steps
  refine sub_list N (by omega) (by have := (List.getElem?_eq_some_iff.mp hx).1; omega) (refs_get (by simpa using hx)) ?_
  k_steps
  rename Fr _ _ _ _ => F2
  rename News _ _ _ _ => N2
  refine Hold.of ?_
  refine' ksw_while (σ := List It × Nat × Tok) (fun c => [(H, listOf (refs c.1).toArray n)]) (fun c => [(Str.ofString "pos", .int c.2.1 c.2.2)]) (fun _ => True) [Str.ofString "parentpos", Str.ofString "parent"]
    (fun c => c.1.length = its.length ∧ (∀ i ∈ c.1, i ∈ its) ∧ c.2.1 < its.length ∧ sdLoop x c.1 c.2.1 = sdLoop x its p) (fun c => c.2.1) (its, p, tp) F2 N2 trivial ?hk ?hp ?turn ?hE
  case hk => intro q hq; rcases List.mem_cons.mp hq with rfl | hq; exact rfl; cases hq
  case hp => exact ⟨rfl, fun _ h => h, (List.getElem?_eq_some_iff.mp hx).1, rfl⟩
  case hE => passes_own
  case turn =>
    intro c u h tk hf hp F3 N3
    obtain ⟨xs, q, tq⟩ := c
    obtain ⟨hl, hm, hq, hsd⟩ := hp
    dsimp only at hl hm hq hsd F3 N3
    k_steps
    · rename Fr _ _ _ _ => F4
      rename News _ _ _ _ => N4
      have hq0 : 0 < q := by omega
      have e1 : ((q : Int) - 1).fdiv (2 ^ Int.toNat 1) = (((q - 1) / 2 : Nat) : Int) := by
        have : (2 : Int) ^ Int.toNat 1 = 2 := rfl
        rw [this, Int.fdiv_eq_ediv_of_nonneg _ (by omega)]
        omega
      have hpp : (q - 1) / 2 < xs.length := by omega
      dsimp only at F4 N4 ⊢
      rw [e1] at F4 ⊢
      refine sub_list N4 (by omega) (by omega) (refs_get (x := xs[(q - 1) / 2]) (by rw [Int.toNat_natCast]; simp [hpp])) ?_
      k_steps
      rename Fr _ _ _ _ => F5
      rename News _ _ _ _ => N5
      refine lt_tup (hat x (List.mem_of_getElem? hx) _ _ F5) (hat _ (hm _ (List.getElem_mem hpp)) _ _ F5) (by show un + 3 < cLine; omega) ?_
      have hgd : xs.getD ((q - 1) / 2) x = xs[(q - 1) / 2] := by simp [List.getD, hpp]
      cases hlt : x.lt xs[(q - 1) / 2] with
      | true =>
        k_steps
        rename Fr _ _ _ _ => F6
        rename News _ _ _ _ => N6
        refine set_list F6 N6 (fun _ h => nomatch h) (by omega) (by show (q : Int) < ((refs xs).length : Int); rw [refs_len]; omega) (by omega) ?_
        intro h7 F7 N7
        rw [Int.toNat_natCast, refs_set xs q] at N7
        clear F6 N6
        k_steps
        rename Fr _ _ _ _ => F8
        rename News _ _ _ _ => N8
        refine Hold.of ?_
        refine' ksw_end (xs.set q xs[(q - 1) / 2], (q - 1) / 2, _) F8 N8 ?hled trivial ?hk9 ?same ?hp9 ?hmu
        case hk9 => intro z hz; rcases List.mem_cons.mp hz with rfl | hz; exact rfl; cases hz
        case hled => exact fun _ h => h
        case same =>
          intro z h2 h3
          have n1 : z ≠ Str.ofString "pos" := h2 _ (.head _)
          have n2 : z ≠ Str.ofString "parentpos" := by rintro rfl; exact absurd h3 (by decide)
          have n3 : z ≠ Str.ofString "parent" := by rintro rfl; exact absurd h3 (by decide)
          simp only [n1, n2, n3, if_false, kstB, h3, Bool.false_eq_true]
        case hp9 =>
          refine ⟨by simp [hl], ?_, (by show (q - 1) / 2 < its.length; omega), ?_⟩
          · intro i hi
            rcases List.mem_or_eq_of_mem_set hi with h | h
            · exact hm i h
            · exact hm i (h ▸ List.getElem_mem hpp)
          · show sdLoop x (xs.set q xs[(q - 1) / 2]) ((q - 1) / 2) = _
            rw [← hsd]
            conv => rhs; rw [sdLoop]
            rw [dif_pos hq0, hgd, if_pos hlt]
        case hmu =>
          show (q - 1) / 2 < q
          omega
      | false =>
        k_steps
        rename Fr _ _ _ _ => F6
        rename News _ _ _ _ => N6
        refine set_list F6 N6 (fun _ h => nomatch h) (by omega) (by show (q : Int) < ((refs xs).length : Int); rw [refs_len]; omega) (by omega) ?_
        intro h7 F7 N7
        rw [Int.toNat_natCast, refs_set xs q] at N7
        clear F6 N6
        have e2 : sdLoop x its p = xs.set q x := by rw [← hsd, sdLoop, dif_pos hq0, hgd, hlt]; rfl
        rw [← e2] at N7
        k_steps
        exact hQ _ _ (fun b o n e => F7.keep b o (hext b o n e)) (N7.get (.head _))
    · rename Fr _ _ _ _ => F6
      rename News _ _ _ _ => N6
      refine set_list F6 N6 (fun _ h => nomatch h) (by omega) (by show (q : Int) < ((refs xs).length : Int); rw [refs_len]; omega) (by omega) ?_
      intro h7 F7 N7
      rw [Int.toNat_natCast, refs_set xs q] at N7
      clear F6 N6
      have e2 : sdLoop x its p = xs.set q x := by rw [← hsd, sdLoop, dif_neg (by omega)]
      rw [← e2] at N7
      k_steps
      exact hQ _ _ (fun b o n e => F7.keep b o (hext b o n e)) (N7.get (.head _))
end Mine
end
section
theorem Mine.offH2 : True := by
  w_top off
  trivial
open PySem PySem.W PyProof.Rows PySem.Calls PySem.Spec
namespace Mine

/-- the child that goes up -/
def child (xs : List It) (p : Nat) : Nat :=
  match xs[2 * p + 1]?, xs[2 * p + 2]? with
  | some a, some b => if a.lt b then 2 * p + 1 else 2 * p + 2
  | _, _ => 2 * p + 1
theorem child_gt (xs : List It) (p : Nat) : p < child xs p := by
  unfold child; split <;> (try split) <;> omega
def suLoop (x : It) (xs : List It) (p : Nat) : List It :=
  if h : 2 * p + 1 < xs.length then suLoop x (xs.set p (xs.getD (child xs p) x)) (child xs p) else sdLoop x (xs.set p x) p
termination_by xs.length - p
decreasing_by
  have := child_gt xs p
  simp only [List.length_set]
  omega

local macro_rules | `(tactic| walk_at "exec While Compare cons nil") => `(tactic| refine Mine.hold ?_)
local macro_rules | `(tactic| walk_at "KswEnd") => `(tactic| refine Mine.hold ?_)
local macro_rules | `(tactic| walk_at "call ref") => `(tactic| refine Mine.hold ?_)
theorem fill3 : ∀ w : World, (hd.heap_39 w.params) = (hd.heap_39 w.params) ∧ PySem.Challenge.rw_nq0081_01.row.prog = PySem.Challenge.rw_nq0081_01.row.prog := by
  k_fill
  exact fun _ => ⟨rfl, rfl⟩

theorem siftup_spec : ∀ (w : World) (dp un : Nat) (fr : Option (List Env)) (gd : Option (List Code)) (s : Shared) (Q E : Value → Shared → Prop) (H n : Nat) (its : List It) (x : It) (ts : Tok),
    Gr w (hideAll s.heap [H]) → s.heap.get? H = some (listOf (refs its).toArray n) → (∀ i ∈ its, s.heap.get? i.a = some i.obj ∧ i.a ≠ H) → its[0]? = some x → its.length < 1000 → dp + 2 < recursionLimit → un + 40 < cLine →
    (∀ h' tk, Ext [H] s.heap h' → h'.get? H = some (listOf (refs (suLoop x its 0)).toArray n) → Q .none { s with heap := h', toks := tk }) →
    wpAny (model PySem.Challenge.rw_nq0081_01.row.prog w) (Around.mk none dp fr gd un) (call (.ref 78) [.ref H, .int 0 ts]) Q E s := by
  intro w dp un fr gd s Q E H n its x ts g hH hit hx hlen hdp hun hQ
  have hpos : 0 < its.length := (List.getElem?_eq_some_iff.mp hx).1
  refine' enter [H] [(H, listOf (refs its).toArray n)] [(Str.ofString "pos", .int 0 ts), (Str.ofString "heap", .ref H)] g ?hn ?ho ?hcd ?room ?bind ?loc ?c2 ?c3 ?c4 ?c5 ?_
  case hn => intro q hq; rcases List.mem_cons.mp hq with rfl | hq; exact ⟨List.mem_singleton.mpr rfl, hH⟩; cases hq
  case ho => k_is
  case hcd => k_is
  case room => omega
  case bind => exact rfl
  case loc => exact locs rfl
  case c2 => exact rfl
  case c3 => exact rfl
  case c4 => exact rfl
  case c5 => decide
  intro g0 L h1 tk1 mean mg mb hext hsub hL X T F N
  have hat : ∀ i ∈ its, ∀ h m, Fr g0 L h m → h.get? i.a = some i.obj := fun i hi h m F => F.keep _ _ (hext _ _ (by simpa using (hit i hi).2) (hit i hi).1)
  have hlt0 : ∀ h m n' xs, Fr g0 L h m → News g0 L h [(H, listOf (refs xs).toArray n')] → h.IsList H (refs xs).toArray := fun h m n' xs F N => ⟨_, N.get (.head _), rfl, _, rfl⟩
  k_steps
  refine len_list (hlt0 _ _ _ _ F N) (by rw [List.size_toArray, refs_len]; omega) ?_
  rw [List.size_toArray, refs_len]
  k_steps
  rename Fr _ _ _ _ => F1
  rename News _ _ _ _ => N1
  refine sub_list N1 (by omega) (by omega) (refs_get (x := x) (by simpa using hx)) ?_
  k_steps
  rename Fr _ _ _ _ => F2
  rename News _ _ _ _ => N2
  refine Hold.of ?_
  refine' ksw_while (σ := List It × Nat × Tok × Tok) (fun c => [(H, listOf (refs c.1).toArray n)]) (fun c => [(Str.ofString "pos", .int c.2.1 c.2.2.1), (Str.ofString "childpos", .int (2 * c.2.1 + 1) c.2.2.2)]) (fun _ => True) [Str.ofString "rightpos"]
    (fun c => c.1.length = its.length ∧ (∀ i ∈ c.1, i ∈ its) ∧ c.2.1 < its.length ∧ suLoop x c.1 c.2.1 = suLoop x its 0) (fun c => its.length - c.2.1) (its, 0, ts, _) F2 N2 trivial ?hk ?hp ?turn ?hE
  case hk => intro q hq; rcases List.mem_cons.mp hq with rfl | hq; exact rfl; rcases List.mem_cons.mp hq with rfl | hq; exact rfl; cases hq
  case hp => exact ⟨rfl, fun _ h => h, hpos, rfl⟩
  case hE => passes_own
  case turn =>
    intro c u h tk hf hp F3 N3
    obtain ⟨xs, q, tq, tc⟩ := c
    obtain ⟨hl, hm, hq, hsd⟩ := hp
    dsimp only at hl hm hq hsd F3 N3
    have hsub2 : ∀ k : Nat, (hk : k < xs.length) → ∀ h m, Fr g0 L h m → h.get? xs[k].a = some xs[k].obj := fun k hk h m F => hat _ (hm _ (List.getElem_mem hk)) h m F
    k_steps
    · rename Fr _ _ _ _ => F4
      rename News _ _ _ _ => N4
      have hc1 : 2 * q + 1 < xs.length := by omega
      have hc2 : 2 * q + 2 < xs.length := by omega
      refine sub_list N4 (by omega) (by omega) (refs_get (x := xs[2 * q + 1]) (by rw [show (2 * (q : Int) + 1).toNat = 2 * q + 1 by omega]; simp [hc1])) ?_
      k_steps
      refine sub_list N4 (by omega) (by omega) (refs_get (x := xs[2 * q + 2]) (by rw [show (2 * (q : Int) + 1 + 1).toNat = 2 * q + 2 by omega]; simp [hc2])) ?_
      k_steps
      refine lt_tup (hsub2 _ hc1 _ _ F4) (hsub2 _ hc2 _ _ F4) (by show un + 3 < cLine; omega) ?_
      cases hlt : xs[2 * q + 1].lt xs[2 * q + 2] with
      | true =>
        k_steps
        rename Fr _ _ _ _ => F5
        rename News _ _ _ _ => N5
        have hcl : 2 * q + 1 < xs.length := by omega
        have hch : child xs q = 2 * q + 1 := by unfold child; simp [hc1, hc2, hlt]
        refine sub_list N5 (by omega) (by omega) (refs_get (x := xs[2 * q + 1]) (by rw [show (2 * (q : Int) + 1).toNat = 2 * q + 1 by omega]; simp [hcl])) ?_
        k_steps
        rename Fr _ _ _ _ => F6
        rename News _ _ _ _ => N6
        refine set_list F6 N6 (fun _ h => nomatch h) (by omega) (by show (q : Int) < ((refs xs).length : Int); rw [refs_len]; omega) (by omega) ?_
        intro h7 F7 N7
        rw [Int.toNat_natCast, refs_set xs q] at N7
        clear F6 N6
        k_steps
        rename Fr _ _ _ _ => F8
        rename News _ _ _ _ => N8
        refine Hold.of ?_
        refine' ksw_end (xs.set q xs[2 * q + 1], 2 * q + 1, _, _) F8 N8 ?hled trivial ?hk9 ?same ?hp9 ?hmu
        case hk9 =>
          intro z hz
          rcases List.mem_cons.mp hz with rfl | hz
          · exact int_eq (show 2 * (q : Int) + 1 = ((2 * q + 1 : Nat) : Int) by omega)
          · rcases List.mem_cons.mp hz with rfl | hz
            · exact int_eq (show 2 * (2 * (q : Int) + 1) + 1 = 2 * ((2 * q + 1 : Nat) : Int) + 1 by omega)
            · cases hz
        case hled => exact fun _ h => h
        case same =>
          intro z h2 h3
          have n1 : z ≠ Str.ofString "pos" := h2 _ (.head _)
          have n2 : z ≠ Str.ofString "childpos" := h2 _ (.tail _ (.head _))
          have n3 : z ≠ Str.ofString "rightpos" := by rintro rfl; exact absurd h3 (by decide)
          simp only [n1, n2, n3, if_false, kstB, h3, Bool.false_eq_true]
        case hp9 =>
          refine ⟨by simp [hl], ?_, (by show 2 * q + 1 < its.length; omega), ?_⟩
          · intro i hi
            rcases List.mem_or_eq_of_mem_set hi with h | h
            · exact hm i h
            · exact hm i (h ▸ List.getElem_mem hcl)
          · show suLoop x (xs.set q xs[2 * q + 1]) (2 * q + 1) = _
            rw [← hsd]
            conv => rhs; rw [suLoop]
            rw [dif_pos (by omega), hch]
            have hgd : xs.getD (2 * q + 1) x = xs[2 * q + 1] := by simp [List.getD, hcl]
            rw [hgd]
        case hmu =>
          show its.length - (2 * q + 1) < its.length - q
          omega

      | false =>
        k_steps
        rename Fr _ _ _ _ => F5
        rename News _ _ _ _ => N5
        have hcl : 2 * q + 2 < xs.length := by omega
        have hch : child xs q = 2 * q + 2 := by unfold child; simp [hc1, hc2, hlt]
        refine sub_list N5 (by omega) (by omega) (refs_get (x := xs[2 * q + 2]) (by rw [show (2 * (q : Int) + 1 + 1).toNat = 2 * q + 2 by omega]; simp [hcl])) ?_
        k_steps
        rename Fr _ _ _ _ => F6
        rename News _ _ _ _ => N6
        refine set_list F6 N6 (fun _ h => nomatch h) (by omega) (by show (q : Int) < ((refs xs).length : Int); rw [refs_len]; omega) (by omega) ?_
        intro h7 F7 N7
        rw [Int.toNat_natCast, refs_set xs q] at N7
        clear F6 N6
        k_steps
        rename Fr _ _ _ _ => F8
        rename News _ _ _ _ => N8
        refine Hold.of ?_
        refine' ksw_end (xs.set q xs[2 * q + 2], 2 * q + 2, _, _) F8 N8 ?hled trivial ?hk9 ?same ?hp9 ?hmu
        case hk9 =>
          intro z hz
          rcases List.mem_cons.mp hz with rfl | hz
          · exact int_eq (show 2 * (q : Int) + 1 + 1 = ((2 * q + 2 : Nat) : Int) by omega)
          · rcases List.mem_cons.mp hz with rfl | hz
            · exact int_eq (show 2 * (2 * (q : Int) + 1 + 1) + 1 = 2 * ((2 * q + 2 : Nat) : Int) + 1 by omega)
            · cases hz
        case hled => exact fun _ h => h
        case same =>
          intro z h2 h3
          have n1 : z ≠ Str.ofString "pos" := h2 _ (.head _)
          have n2 : z ≠ Str.ofString "childpos" := h2 _ (.tail _ (.head _))
          have n3 : z ≠ Str.ofString "rightpos" := by rintro rfl; exact absurd h3 (by decide)
          simp only [n1, n2, n3, if_false, kstB, h3, Bool.false_eq_true]
        case hp9 =>
          refine ⟨by simp [hl], ?_, (by show 2 * q + 2 < its.length; omega), ?_⟩
          · intro i hi
            rcases List.mem_or_eq_of_mem_set hi with h | h
            · exact hm i h
            · exact hm i (h ▸ List.getElem_mem hcl)
          · show suLoop x (xs.set q xs[2 * q + 2]) (2 * q + 2) = _
            rw [← hsd]
            conv => rhs; rw [suLoop]
            rw [dif_pos (by omega), hch]
            have hgd : xs.getD (2 * q + 2) x = xs[2 * q + 2] := by simp [List.getD, hcl]
            rw [hgd]
        case hmu =>
          show its.length - (2 * q + 2) < its.length - q
          omega

    · have hc1 : 2 * q + 1 < xs.length := by omega
      have hc2 : ¬ 2 * q + 2 < xs.length := by omega
      rename Fr _ _ _ _ => F5
      rename News _ _ _ _ => N5
      have hcl : 2 * q + 1 < xs.length := by omega
      have hch : child xs q = 2 * q + 1 := by unfold child; rw [List.getElem?_eq_none (i := 2 * q + 2) (by omega)]; cases xs[2 * q + 1]? <;> rfl
      refine sub_list N5 (by omega) (by omega) (refs_get (x := xs[2 * q + 1]) (by rw [show (2 * (q : Int) + 1).toNat = 2 * q + 1 by omega]; simp [hcl])) ?_
      k_steps
      rename Fr _ _ _ _ => F6
      rename News _ _ _ _ => N6
      refine set_list F6 N6 (fun _ h => nomatch h) (by omega) (by show (q : Int) < ((refs xs).length : Int); rw [refs_len]; omega) (by omega) ?_
      intro h7 F7 N7
      rw [Int.toNat_natCast, refs_set xs q] at N7
      clear F6 N6
      k_steps
      rename Fr _ _ _ _ => F8
      rename News _ _ _ _ => N8
      refine Hold.of ?_
      refine' ksw_end (xs.set q xs[2 * q + 1], 2 * q + 1, _, _) F8 N8 ?hled trivial ?hk9 ?same ?hp9 ?hmu
      case hk9 =>
        intro z hz
        rcases List.mem_cons.mp hz with rfl | hz
        · exact int_eq (show 2 * (q : Int) + 1 = ((2 * q + 1 : Nat) : Int) by omega)
        · rcases List.mem_cons.mp hz with rfl | hz
          · exact int_eq (show 2 * (2 * (q : Int) + 1) + 1 = 2 * ((2 * q + 1 : Nat) : Int) + 1 by omega)
          · cases hz
      case hled => exact fun _ h => h
      case same =>
        intro z h2 h3
        have n1 : z ≠ Str.ofString "pos" := h2 _ (.head _)
        have n2 : z ≠ Str.ofString "childpos" := h2 _ (.tail _ (.head _))
        have n3 : z ≠ Str.ofString "rightpos" := by rintro rfl; exact absurd h3 (by decide)
        simp only [n1, n2, n3, if_false, kstB, h3, Bool.false_eq_true]
      case hp9 =>
        refine ⟨by simp [hl], ?_, (by show 2 * q + 1 < its.length; omega), ?_⟩
        · intro i hi
          rcases List.mem_or_eq_of_mem_set hi with h | h
          · exact hm i h
          · exact hm i (h ▸ List.getElem_mem hcl)
        · show suLoop x (xs.set q xs[2 * q + 1]) (2 * q + 1) = _
          rw [← hsd]
          conv => rhs; rw [suLoop]
          rw [dif_pos (by omega), hch]
          have hgd : xs.getD (2 * q + 1) x = xs[2 * q + 1] := by simp [List.getD, hcl]
          rw [hgd]
      case hmu =>
        show its.length - (2 * q + 1) < its.length - q
        omega

    · rename Fr _ _ _ _ => F6
      rename News _ _ _ _ => N6
      refine set_list F6 N6 (fun _ h => nomatch h) (by omega) (by show (q : Int) < ((refs xs).length : Int); rw [refs_len]; omega) (by omega) ?_
      intro h7 F7 N7
      rw [Int.toNat_natCast, refs_set xs q] at N7
      clear F6 N6
      have hq' : (xs.set q x)[q]? = some x := List.getElem?_set_self (by omega)
      have hm' : ∀ i ∈ xs.set q x, i ∈ its := fun i hi => by
        rcases List.mem_or_eq_of_mem_set hi with h | h
        · exact hm i h
        · exact h ▸ List.mem_of_getElem? hx
      have e2 : suLoop x its 0 = sdLoop x (xs.set q x) q := by rw [← hsd, suLoop, dif_neg (by omega)]
      k_steps
      have hg0 : ∀ b ∈ [H], g0.get? b = none := fun b hb => by rw [List.mem_singleton.mp hb]; exact N7.fresh (.head _)
      refine Hold.of ?_
      refine siftdown_spec w _ _ _ _ _ _ _ H n (xs.set q x) x q ts tq (gr_hide X T F7 [H] hg0) (N7.get (.head _)) (fun i hi => ⟨hat i (hm' i hi) _ _ F7, (hit i (hm' i hi)).2⟩) hq' (by simp; omega) (by show dp + 1 + 1 < _; omega) (by show un + 3 + 30 < _; omega) ?_
      intro h8 tk8 e8 hh8
      k_steps
      exact hQ _ _ (fun b o n e => e8 b o n (F7.keep b o (hext b o n e))) (by rw [e2]; exact hh8)
end Mine
end
section
theorem Mine.offH3 : True := by
  w_top off
  trivial
open PySem PySem.W PyProof.Rows PySem.Calls PySem.Spec
namespace Mine

def pushL (its : List It) (x : It) : List It := sdLoop x (its ++ [x]) its.length

local macro_rules | `(tactic| walk_at "call ref") => `(tactic| refine Mine.hold ?_)
local macro_rules | `(tactic| walk_at "call builtin:list.append") => `(tactic| refine Mine.hold ?_)
local macro_rules | `(tactic| walk_at "call builtin:list.pop") => `(tactic| refine Mine.hold ?_)
local macro_rules | `(tactic| walk_at "call builtin:len") => `(tactic| refine Mine.hold ?_)
local macro_rules | `(tactic| walk_at "truthy ref") => `(tactic| refine Mine.hold ?_)
theorem fill4 : ∀ w : World, (hd.heap_39 w.params) = (hd.heap_39 w.params) ∧ PySem.Challenge.rw_nq0081_01.row.prog = PySem.Challenge.rw_nq0081_01.row.prog := by
  k_fill
  exact fun _ => ⟨rfl, rfl⟩

theorem push_spec : ∀ (w : World) (dp un : Nat) (fr : Option (List Env)) (gd : Option (List Code)) (s : Shared) (Q E : Value → Shared → Prop) (H n : Nat) (its : List It) (x : It),
    Gr w (hideAll s.heap [H]) → s.heap.get? H = some (listOf (refs its).toArray n) → (∀ i ∈ its, s.heap.get? i.a = some i.obj ∧ i.a ≠ H) → s.heap.get? x.a = some x.obj → x.a ≠ H → its.length < 900 → dp + 2 < recursionLimit → un + 50 < cLine →
    (∀ h' tk, Ext [H] s.heap h' → h'.get? H = some (listOf (refs (pushL its x)).toArray (n + 1)) → Q .none { s with heap := h', toks := tk }) →
    wpAny (model PySem.Challenge.rw_nq0081_01.row.prog w) (Around.mk none dp fr gd un) (call (.ref 57) [.ref H, .ref x.a]) Q E s := by
  intro w dp un fr gd s Q E H n its x g hH hit hx hxH hlen hdp hun hQ
  refine' enter [H] [(H, listOf (refs its).toArray n)] [(Str.ofString "item", .ref x.a), (Str.ofString "heap", .ref H)] g ?hn ?ho ?hcd ?room ?bind ?loc ?c2 ?c3 ?c4 ?c5 ?_
  case hn => intro q hq; rcases List.mem_cons.mp hq with rfl | hq; exact ⟨List.mem_singleton.mpr rfl, hH⟩; cases hq
  case ho => k_is
  case hcd => k_is
  case room => omega
  case bind => exact rfl
  case loc => exact locs rfl
  case c2 => exact rfl
  case c3 => exact rfl
  case c4 => exact rfl
  case c5 => decide
  intro g0 L h1 tk1 mean mg mb hext hsub hL X T F N
  k_steps
  refine Hold.of ?_
  refine append_K F N (Upd.head (fun _ h => nomatch h)) ?_ (by rw [List.size_toArray, refs_len, sizeLine_eq]; omega)
  intro h2 F2 N2
  rw [show (refs its).toArray.push (.ref x.a) = (refs (its ++ [x])).toArray by unfold refs; simp] at N2
  clear F N
  k_steps
  rename Fr _ _ _ _ => F3
  rename News _ _ _ _ => N3
  refine Hold.of ?_
  refine len_list (items := (refs (its ++ [x])).toArray) ⟨_, N3.get (.head _), rfl, _, rfl⟩ (by rw [List.size_toArray, refs_len, List.length_append, List.length_singleton]; omega) ?_
  rw [List.size_toArray, refs_len, List.length_append, List.length_singleton]
  k_steps
  rw [show ((its.length + 1 : Nat) : Int) - 1 = (its.length : Int) by omega]
  have hg0 : ∀ b ∈ [H], g0.get? b = none := fun b hb => by rw [List.mem_singleton.mp hb]; exact N3.fresh (.head _)
  have hat : ∀ i ∈ its ++ [x], h2.get? i.a = some i.obj ∧ i.a ≠ H := fun i hi => by
    rcases List.mem_append.mp hi with h | h
    · exact ⟨F3.keep _ _ (hext _ _ (by simpa using (hit i h).2) (hit i h).1), (hit i h).2⟩
    · rw [List.mem_singleton.mp h]; exact ⟨F3.keep _ _ (hext _ _ (by simpa using hxH) hx), hxH⟩
  refine Hold.of ?_
  refine siftdown_spec w _ _ _ _ _ _ _ H _ (its ++ [x]) x its.length _ _ (gr_hide X T F3 [H] hg0) (N3.get (.head _)) hat (by simp) (by simp; omega) (by show dp + 1 + 1 < _; omega) (by show un + 3 + 30 < _; omega) ?_
  intro h8 tk8 e8 hh8
  k_steps
  exact hQ _ _ (fun b o n e => e8 b o n (F3.keep b o (hext b o n e))) hh8


theorem pop_spec : ∀ (w : World) (dp un : Nat) (fr : Option (List Env)) (gd : Option (List Code)) (s : Shared) (Q E : Value → Shared → Prop) (H n : Nat) (its : List It) (x : It),
    Gr w (hideAll s.heap [H]) → s.heap.get? H = some (listOf (refs (its ++ [x])).toArray n) → (∀ i ∈ its ++ [x], s.heap.get? i.a = some i.obj ∧ i.a ≠ H) → its.length < 900 → dp + 3 < recursionLimit → un + 50 < cLine →
    (∀ h' tk, Ext [H] s.heap h' → h'.get? H = some (listOf (refs (match its with | [] => [] | _ :: r => suLoop x (x :: r) 0)).toArray (n + 1)) → Q (.ref (its.headD x).a) { s with heap := h', toks := tk }) →
    wpAny (model PySem.Challenge.rw_nq0081_01.row.prog w) (Around.mk none dp fr gd un) (call (.ref 64) [.ref H]) Q E s := by
  intro w dp un fr gd s Q E H n its x g hH hit hlen hdp hun hQ
  refine' enter [H] [(H, listOf (refs (its ++ [x])).toArray n)] [(Str.ofString "heap", .ref H)] g ?hn ?ho ?hcd ?room ?bind ?loc ?c2 ?c3 ?c4 ?c5 ?_
  case hn => intro q hq; rcases List.mem_cons.mp hq with rfl | hq; exact ⟨List.mem_singleton.mpr rfl, hH⟩; cases hq
  case ho => k_is
  case hcd => k_is
  case room => omega
  case bind => exact rfl
  case loc => exact locs rfl
  case c2 => exact rfl
  case c3 => exact rfl
  case c4 => exact rfl
  case c5 => decide
  intro g0 L h1 tk1 mean mg mb hext hsub hL X T F N
  k_steps
  refine Hold.of ?_
  refine kl_pop (p := refs its) (y := .ref x.a) F N (by rw [List.toList_toArray]; unfold refs; rw [List.map_append]; exact kpa_last _ _) (Upd.head (fun _ h => nomatch h)) (by rw [List.toList_toArray, refs_len, sizeLine_eq, List.length_append]; simp; omega) ?_
  intro h2 F2 N2
  clear F N
  k_steps
  rename Fr _ _ _ _ => F3
  rename News _ _ _ _ => N3
  refine Hold.of ?_
  refine wpAny_truthy_list (items := (refs its).toArray) ⟨_, N3.get (.head _), rfl, _, rfl⟩ (by rw [List.size_toArray, refs_len]; omega) ?_
  cases its with
  | nil =>
    rw [show (!(refs []).toArray.isEmpty) = false from rfl]
    k_steps
    exact hQ _ _ (fun b o n e => F3.keep b o (hext b o n e)) (N3.get (.head _))
  | cons y r =>
    rw [show (!(refs (y :: r)).toArray.isEmpty) = true from rfl]
    k_steps
    rename Fr _ _ _ _ => F6
    rename News _ _ _ _ => N6
    have hg0 : ∀ b ∈ [H], g0.get? b = none := fun b hb => by rw [List.mem_singleton.mp hb]; exact N6.fresh (.head _)
    have hat : ∀ i ∈ x :: r, ∀ h m, Fr g0 L h m → h.get? i.a = some i.obj ∧ i.a ≠ H := fun i hi h m F6 => by
      have hi' : i ∈ (y :: r) ++ [x] := by
        rcases List.mem_cons.mp hi with rfl | h
        · simp
        · simp [h]
      exact ⟨F6.keep _ _ (hext _ _ (by simpa using (hit i hi').2) (hit i hi').1), (hit i hi').2⟩
    refine Hold.of ?_
    refine siftup_spec w _ _ _ _ _ _ _ H _ (x :: r) x _ (gr_hide X T F6 [H] hg0) (N6.get (.head _)) (fun i hi => hat i hi _ _ F6) rfl (by simp at hlen ⊢; omega) (by show dp + 1 + 2 < _; omega) (by show un + 3 + 40 < _; omega) ?_
    intro h8 tk8 e8 hh8
    have F8 := fr_after F6 e8 hg0 (by intro hb; have := List.mem_singleton.mp hb; exact (N6 _ (.head _)).2.1 this.symm)
    clear F6
    k_steps
    exact hQ _ _ (fun b o n e => F8.keep b o (hext b o n e)) hh8
end Mine
end
section
open PySem PySem.W PyProof.Rows PySem.Calls PySem.Spec
namespace Mine

/-- a turn's end in a for loop -/
def ForStep (h₀ : Heap) (L : Addr) (fp : List Addr) (own : List (Addr × Obj)) (J : (Str → Option Value) → List (Addr × Obj) → Prop) (s : Shared) (Q : Flow → Shared → Prop) (f : Flow) (s₃ : Shared) : Prop :=
  match f with
  | .ret v => Q (.ret v) s₃
  | .brk => Q .next s₃
  | _ => ∃ h' tk m' news', s₃ = { s with heap := h', toks := tk } ∧ Fr h₀ L h' m' ∧ News h₀ L h' (news' ++ own) ∧ (∀ p ∈ news', p.1 ∉ fp) ∧ J m' news'

section
variable {prog : Program} {w : World} {A : Around} {E : Value → Shared → Prop} {s : Shared} {env : Env} {h₀ : Heap} {target : Expr} {body orelse : List Stmt} {Q : Flow → Shared → Prop}
  {I : Addr} {fp wr : List Addr} {n : Nat} {P Md : Nat → Value → Heap → Prop} {St : Nat → Heap → Prop} {m : Str → Option Value} {news : List (Addr × Obj)}

theorem forT (W : KTurns prog w A target I fp wr n P Md St) (J : Nat → (Str → Option Value) → List (Addr × Obj) → Prop)
    (hLf : env.locals ∉ fp) (hwr : ∀ b ∈ wr, h₀.get? b = none) (hnf : ∀ p ∈ news, p.1 ∉ fp) (hst : St 0 s.heap) (F : Fr h₀ env.locals s.heap m) (N : News h₀ env.locals s.heap news) (h0 : J 0 m news)
    (step : ∀ i v m₁ news₁ h₁ tk₁ own, i < n → P i v h₁ → St (i + 1) h₁ → J i m₁ news₁ → (∀ p ∈ news₁, p.1 ∉ fp) → (∀ p ∈ own, p.1 ∈ fp) → (∀ p ∈ own, h₁.get? p.1 = some p.2) → (∀ b ∈ fp, h₀.get? b = none → ∀ o, h₁.get? b = some o → (b, o) ∈ own) → Fr h₀ env.locals h₁ m₁ → News h₀ env.locals h₁ (news₁ ++ own) →
      wpAny (model prog w) A (assign target env v) (fun _ s₂ => wpAny (model prog w) A (execs body env) (ForStep h₀ env.locals fp own (J (i + 1)) s Q) (fun _ _ => False) s₂) (fun _ _ => False) { s with heap := h₁, toks := tk₁ })
    (done : ∀ m₁ news₁ h₁ tk₁, J n m₁ news₁ → (∀ p ∈ news₁, p.1 ∉ fp) → Fr h₀ env.locals h₁ m₁ → News h₀ env.locals h₁ news₁ → wpAny (model prog w) A (execs orelse env) Q (fun _ _ => False) { s with heap := h₁, toks := tk₁ }) :
    codeAny (model prog w) A (.forLoop target (.ref I) body orelse env) (fun r s' => match r with | .ok f => Q f s' | .error e => cameBackBy (model prog w) A env E e s') s := by
  have hLw : env.locals ∉ wr := fun h => hLf (W.sub _ h)
  refine codeAny_forLoop_any (fun k s' => ∃ h' tk m' news' i, s' = { s with heap := h', toks := tk } ∧ St i h' ∧ Fr h₀ env.locals h' m' ∧ News h₀ env.locals h' news' ∧ (∀ p ∈ news', p.1 ∉ fp) ∧ J i m' news' ∧ i ≤ n ∧ k = n + 1 - i) ?_ (n + 1)
    ⟨s.heap, s.toks, m, news, 0, rfl, hst, F, N, hnf, h0, Nat.zero_le _, rfl⟩
  rintro k s' ⟨h1, tk, m1, news1, i, rfl, st1, F1, N1, hf1, hJ, hi, rfl⟩
  have carry : ∀ h2 : Heap, (∀ b o, b ∉ wr → h1.get? b = some o → h2.get? b = some o) → Fr h₀ env.locals h2 m1 ∧ News h₀ env.locals h2 news1 := fun h2 hk =>
    ⟨⟨F1.ns.at' fun o e => hk _ o hLw e, fun b o e => hk b o (fun hb => by rw [hwr b hb] at e; cases e) (F1.keep b o e), F1.above⟩, fun p hp => ⟨hk _ _ (fun hb => hf1 p hp (W.sub _ hb)) (N1 p hp).1, (N1 p hp).2⟩⟩
  rcases Nat.lt_or_ge i n with hlt | hge
  · refine W.item i _ _ _ hlt st1 fun v h2 tk2 hMd hk2 => W.go i v _ _ _ hMd fun h3 hP st3 hk3 => ?_
    obtain ⟨F3, N3⟩ := carry h3 fun b o hb x => hk3 b o hb (hk2 b o hb x)
    have No : News h₀ env.locals h3 (ownOf h₀ fp h3) := news_ownOf hLf
    have after : ∀ h4 m4 news4, Fr h₀ env.locals h4 m4 → News h₀ env.locals h4 (news4 ++ ownOf h₀ fp h3) → St (i + 1) h4 := fun h4 m4 news4 F4 N4 => W.frame _ _ _ st3 fun b hb o e => by
      cases hn : h₀.get? b with
      | some o0 =>
        have q := F3.keep b o0 hn
        rw [e] at q
        cases q
        exact F4.keep b o hn
      | none => exact (N4 _ (List.mem_append_right _ (mem_ownOf hb hn e))).1
    refine wpAny_mono (step i v m1 news1 h3 tk2 _ hlt hP st3 hJ hf1 ownOf_sub (fun p hp => (No p hp).1) (fun b hb hn o e => mem_ownOf hb hn e) F3 (N3.append No)) (fun _ s4 h4 => wpAny_mono h4 (fun f s5 h5 => ?_) fun _ _ e => e.elim) fun _ _ e => e.elim
    cases f with
    | ret v => exact h5
    | brk => exact h5
    | next =>
      obtain ⟨h6, tk6, m6, news6, rfl, F6, N6, hf6, hJ6⟩ := h5
      exact ⟨n + 1 - (i + 1), by omega, h6, tk6, m6, news6, i + 1, rfl, after _ _ _ F6 N6, F6, fun p hp => N6 p (List.mem_append_left _ hp), hf6, hJ6, hlt, rfl⟩
    | cont =>
      obtain ⟨h6, tk6, m6, news6, rfl, F6, N6, hf6, hJ6⟩ := h5
      exact ⟨n + 1 - (i + 1), by omega, h6, tk6, m6, news6, i + 1, rfl, after _ _ _ F6 N6, F6, fun p hp => N6 p (List.mem_append_left _ hp), hf6, hJ6, hlt, rfl⟩
  · have hin : i = n := by omega
    subst hin
    refine W.done _ _ _ st1 fun h2 tk2 hk2 => ?_
    obtain ⟨F2, N2⟩ := carry h2 hk2
    exact wpAny_mono (done m1 news1 h2 tk2 hJ hf1 F2 N2) (fun _ _ x => x) fun _ _ x => x.elim

theorem for_tup {ax : Addr} {items : Array Value} (hh : A.handled = none) (ht : h₀.IsTuple ax items) (J : Nat → (Str → Option Value) → List (Addr × Obj) → Prop) (F : Fr h₀ env.locals s.heap m) (N : News h₀ env.locals s.heap news) (h0 : J 0 m news)
    (step : ∀ fp i v m₁ news₁ h₁ tk₁ own, items[i]? = some v → J i m₁ news₁ → (∀ p ∈ news₁, p.1 ∉ fp) → (∀ p ∈ own, p.1 ∈ fp) → (∀ b, h₁.get? b = none → b ∉ fp) → Fr h₀ env.locals h₁ m₁ → News h₀ env.locals h₁ (news₁ ++ own) →
      wpAny (model prog w) A (assign target env v) (fun _ s₂ => wpAny (model prog w) A (execs body env) (ForStep h₀ env.locals fp own (J (i + 1)) s Q) (fun _ _ => False) s₂) (fun _ _ => False) { s with heap := h₁, toks := tk₁ })
    (done : ∀ m₁ news₁ h₁ tk₁, J items.size m₁ news₁ → Fr h₀ env.locals h₁ m₁ → News h₀ env.locals h₁ news₁ → wpAny (model prog w) A (execs orelse env) Q (fun _ _ => False) { s with heap := h₁, toks := tk₁ }) :
    wpAny (model prog w) A (pyIter (.ref ax)) (fun it s₂ => codeAny (model prog w) A (.forLoop target it body orelse env) (fun r s' => match r with | .ok f => Q f s' | .error e => cameBackBy (model prog w) A env E e s') s₂) E s := by
  obtain ⟨o, ho, hc, nn, hd⟩ := ht
  have hax : ax < h₀.objs.size := Heap.lt_size ho
  have hts : s.heap.IsTuple ax items := ⟨o, F.keep _ _ ho, hc, nn, hd⟩
  have hL : env.locals < s.heap.objs.size := F.ns.lt
  have hab := F.above
  have hlt : ax < s.heap.objs.size := Nat.lt_trans (Nat.lt_of_lt_of_le hax hab) hL
  refine wpAny_pyIter_tuple hts ?_
  have k1 : ∀ b o, s.heap.get? b = some o → (s.heap.push { cls := .type "tuple_iterator", data := .fields #[.ref ax, .int 0 0] }).get? b = some o := fun b o e => Heap.get?_push_of_some _ e
  have n1 : env.locals ≠ s.heap.objs.size := Nat.ne_of_lt hL
  have n2 : env.locals ≠ ax := Nat.ne_of_gt (Nat.lt_of_lt_of_le hax hab)
  refine forT (s := { s with heap := s.heap.push { cls := .type "tuple_iterator", data := .fields #[.ref ax, .int 0 0] } }) (KTurns.ofWalks (Walks.tuple hh s.heap.objs.size ax (Nat.ne_of_lt hlt) items) fun i v s Q E st q => letGo_tupleiter st.1 q) J
    (by simp [n1, n2]) ?_ ?_ ⟨⟨_, Heap.get?_push_size _ rfl, rfl, rfl⟩, hts.at (k1 ax)⟩ ⟨F.ns.keeps k1, fun b o e => k1 b o (F.keep b o e), hab⟩ (N.grown k1) h0 ?_ ?_
  · intro b hb; rw [List.mem_singleton.mp hb]; exact Heap.get?_none_of_le (Nat.le_trans hab (Nat.le_of_lt hL))
  · intro p hp
    have h1 : p.1 ≠ s.heap.objs.size := Nat.ne_of_lt (Heap.lt_size (N p hp).1)
    have h2 : p.1 ≠ ax := fun e => by have := (N p hp).2.2; rw [e, ho] at this; cases this
    simp [h1, h2]
  · intro i v m₁ news₁ h₁ tk₁ own hi hP hst hJ hf hof hog hoa F₁ N₁
    refine step _ i v m₁ news₁ h₁ tk₁ own hP hJ hf hof ?_ F₁ N₁
    intro b hb hm
    rcases List.mem_cons.mp hm with rfl | hm
    · obtain ⟨o', ho', _⟩ := hst.1
      rw [hb] at ho'; cases ho'
    · rw [List.mem_singleton.mp hm] at hb
      rw [F₁.keep _ _ ho] at hb; cases hb
  · intro m₁ news₁ h₁ tk₁ hJ _ F₁ N₁
    exact done m₁ news₁ h₁ tk₁ hJ F₁ N₁
end
end Mine
end
section
open PySem PySem.W PyProof.Rows PySem.Calls PySem.Spec
namespace Mine
section
variable {prog : Program} {w : World} {A : Around} {E : Value → Shared → Prop} {s : Shared}
theorem next_tup_item {it t : Addr} {i : Nat} {items : Array Value} {x : Value} {Q : Value → Shared → Prop} (hit : s.heap.IsTupleIter it t i) (ht : s.heap.IsTuple t items) (hx : items[i]? = some x)
    (hQ : ∀ h', h'.IsTupleIter it t (i + 1) → Heap.SameBut it s.heap h' → Q x { s with heap := h' }) : wpAny (model prog w) A (Builtin.SmallTypes.nextOf (.ref it)) Q E s := by
  obtain ⟨o, ho, hc, hd⟩ := id hit
  obtain ⟨ol, hol, _, nl, hdl⟩ := ht
  unfold Builtin.SmallTypes.nextOf
  refine wpAny_bind (wpAny_callSpecial?_slot (name := Str.ofString "__next__") hit.typeIs F.slot_tuple_iterator_next
    (wpAny_call_entry F.slot_tuple_iterator_next hit.typeIs F.entry_tuple_iterator_next ?_ (F.args_tuple_iterator_next_1 _)))
  refine wpAny_bind (m := field (.ref it) 0) (wpAny_field ho hd (x := .ref t) rfl ?_)
  rw [if_neg (show ¬ ((Value.ref t == Value.none) = true) from Bool.false_ne_true)]
  refine wpAny_bind (m := field (.ref it) 1) (wpAny_field ho hd (x := .int i 0) rfl ?_)
  refine wpAny_bind (m := seqItems? (.ref t)) (wpAny_seqItems hol hdl ?_)
  simp only [Int.toNat_natCast, hx]
  refine wpAny_bind (wpAny_setField ho hd (by simp) ?_)
  refine wpAny_pure ⟨_, rfl, ?_⟩
  exact wpAny_pure (hQ _ ⟨_, Heap.get?_update_self _ ho (Obj.isFreed_of_fields (Obj.data_mapFields hd _)), (Obj.cls_mapFields ..).trans hc, by
    rw [Obj.data_mapFields hd]; simp [rawInt]⟩ (Heap.SameBut.update ..))

theorem next_tup_end {it t : Addr} {i : Nat} {items : Array Value} {Q : Value → Shared → Prop} (hh : A.handled = none) (hit : s.heap.IsTupleIter it t i) (ht : s.heap.IsTuple t items) (hx : items[i]? = none)
    (hE : ∀ h' e, Heap.ExtBut it s.heap h' → (∃ o, h'.get? e = some o ∧ o.cls = .type "StopIteration") → E (.ref e) { s with heap := h' }) :
    wpAny (model prog w) A (Builtin.SmallTypes.nextOf (.ref it)) Q E s := by
  obtain ⟨o, ho, hc, hd⟩ := id hit
  obtain ⟨ol, hol, _, nl, hdl⟩ := ht
  unfold Builtin.SmallTypes.nextOf
  refine wpAny_bind (wpAny_callSpecial?_slot (name := Str.ofString "__next__") hit.typeIs F.slot_tuple_iterator_next
    (wpAny_call_entry F.slot_tuple_iterator_next hit.typeIs F.entry_tuple_iterator_next ?_ (F.args_tuple_iterator_next_1 _)))
  refine wpAny_bind (m := field (.ref it) 0) (wpAny_field ho hd (x := .ref t) rfl ?_)
  rw [if_neg (show ¬ ((Value.ref t == Value.none) = true) from Bool.false_ne_true)]
  refine wpAny_bind (m := field (.ref it) 1) (wpAny_field ho hd (x := .int i 0) rfl ?_)
  refine wpAny_bind (m := seqItems? (.ref t)) (wpAny_seqItems hol hdl ?_)
  simp only [Int.toNat_natCast, hx]
  refine wpAny_bind (wpAny_rule (wpAny_bind (wpAny_setField ho hd (by simp) ?_)))
  refine wpAny_bind (m := newExc (.type "StopIteration") []) ?_
  simp only [newExc, newTuple]
  refine wpAny_bind (wpAny_newObj_type ?_ (by size_fits))
  refine wpAny_bind (m := firstArgMember _ _) (wpAny_of_eq (a := Value.none) (by first | rfl | (simp only [firstArgMember]; rfl)) ?_)
  refine wpAny_newObj_type ?_ (by size_fits)
  simp only [raiseNew]
  refine wpAny_bind (wpAny_handled ?_)
  first | rw [show A.in1.handled = none from hh] | rw [hh]
  exact wpAny_bind (wpAny_pure (wpAny_throw (hE _ _ (((Heap.SameBut.update ..).extBut.push _).push _) ⟨_, Heap.get?_push_size _ rfl, rfl⟩)))
end

theorem drawsTup {prog : Program} {w : World} {A : Around} (hh : A.handled = none) (it l : Addr) (hne : l ≠ it) (items : Array Value) :
    Draws prog w A it [it, l] items.size (fun i v => items[i]? = some v) (fun i h => h.IsTupleIter it l i ∧ h.IsTuple l items) where
  live := fun _ _ st => let ⟨o, ho, _⟩ := st.1; ⟨o, ho⟩
  frame := fun _ _ _ st hk => ⟨st.1.at fun o e => hk it (by simp) o e, st.2.at fun o e => hk l (by simp) o e⟩
  item := fun i s Q E hi st hQ => by
    refine next_tup_item st.1 st.2 (x := items[i]) (by simp [hi]) fun h' hit' hs' => ?_
    exact hQ _ h' s.toks (by simp [hi]) ⟨hit', st.2.extBut hs'.extBut hne⟩ hs'
  done := fun s Q E st hE => next_tup_end hh st.1 st.2 (by simp) hE

theorem enum_new_tup (l : Addr) (items : Array Value) (n : Nat) (dct : Option Addr) (sl : Array (Option Value)) :
    Meets (Builtin.«enumerate.__new__» ⟨[.type "enumerate", .ref l], []⟩) (fun _ R s => s.heap.get? l = some { cls := .type "tuple", dict := dct, data := .seq items n, slots := sl } ∧
      R (.ok (.ret (.ref (s.heap.push { cls := .type "tuple_iterator", data := .fields #[.ref l, .int 0 0] }).objs.size)))
        { s with heap := (s.heap.push { cls := .type "tuple_iterator", data := .fields #[.ref l, .int 0 0] }).push { cls := .type "enumerate", data := .fields #[.none, .bool false, .ref s.heap.objs.size, rawInt 0, .none, .none] } }) :=
  .of_wp fun prog w A R s h => by
    obtain ⟨hp, g, d, tk, os⟩ := s; obtain ⟨hl, h⟩ := h
    have hsub := sub_enumerate
    have hL : Heap.IsTuple (Shared.heap ⟨hp, g, d, tk, os⟩) l items := ⟨_, hl, rfl, n, rfl⟩
    wp_walk using AutoSeq1.wpAny_loadPart' hl
    refine wpAny_stack_any fun st => wpAny_pure ?_
    split
    · rename_i c _ _ _ _ _
      cases (c == Value.type "enumerate")
      · wp_walk using AutoSeq1.wpAny_loadPart' hl, wpAny_pyIter_tuple hL
        exact ⟨_, rfl, h⟩
      · wp_walk using AutoSeq1.wpAny_loadPart' hl, wpAny_pyIter_tuple hL
        exact ⟨_, rfl, h⟩
    · wp_walk using AutoSeq1.wpAny_loadPart' hl, wpAny_pyIter_tuple hL
      exact ⟨_, rfl, h⟩

theorem call_enum_tup {prog : Program} {w : World} {A : Around} {E : Value → Shared → Prop} {s : Shared} {l : Addr} {items : Array Value} {Q : Value → Shared → Prop} (hL : s.heap.IsTuple l items)
    (h : ∀ h', IsEnum h' (s.heap.objs.size + 1) s.heap.objs.size 0 .none → h'.IsTupleIter s.heap.objs.size l 0 →
      (∀ b o, s.heap.get? b = some o → h'.get? b = some o) → Q (.ref (s.heap.objs.size + 1)) { s with heap := h' }) :
    wpAny (model prog w) A (call (.type "enumerate") [.ref l]) Q E s := by
  obtain ⟨⟨c, dct, dt, sl⟩, hl, hc, n, hd⟩ := hL
  replace hc : c = .type "tuple" := hc
  replace hd : dt = .seq items n := hd
  subst hc hd
  refine callType_new F.called_enumerate (by decide) (F.typeCall_enumerate_1 _) (F.newCall_enumerate_1 _) (fun obj => F.args_object_init_2 obj _) F.entry_enumerate_new
    (enum_new_tup l items n dct sl) ⟨hl, ?_⟩
  have hz : (s.heap.push { cls := .type "tuple_iterator", data := .fields #[.ref l, .int 0 0] }).objs.size = s.heap.objs.size + 1 := Heap.size_push ..
  show _ ∧ _
  rw [hz]
  have he : IsEnum ((s.heap.push { cls := .type "tuple_iterator", data := .fields #[.ref l, .int 0 0] }).push
      { cls := .type "enumerate", data := .fields #[.none, .bool false, .ref s.heap.objs.size, rawInt 0, .none, .none] }) (s.heap.objs.size + 1) s.heap.objs.size 0 .none := by
    have := Heap.get?_push_size (s.heap.push { cls := .type "tuple_iterator", data := .fields #[.ref l, .int 0 0] })
      (o := { cls := .type "enumerate", data := .fields #[.none, .bool false, .ref s.heap.objs.size, rawInt 0, .none, .none] }) rfl
    rw [hz] at this; exact this
  exact ⟨⟨_, he, rfl⟩, h _ he ⟨_, Heap.get?_push_of_some _ (Heap.get?_push_size _ rfl), rfl, rfl⟩ fun b o x => Heap.get?_push_of_some _ (Heap.get?_push_of_some _ x)⟩
end Mine
end
section
theorem Mine.offF1 : True := by
  w_top off
  trivial
open PySem PySem.W PyProof.Rows PySem.Calls PySem.Spec
namespace Mine

structure Pr where
  a : Addr
  bit : Int
  tb : Tok
  ch : Str
  tc : Tok
abbrev Pr.obj (p : Pr) : Obj := { cls := .type "tuple", data := .seq #[.int p.bit p.tb, .str p.ch p.tc] }
structure Row where
  a : Addr
  prs : List Pr
abbrev Row.obj (r : Row) : Obj := { cls := .type "tuple", data := .seq (r.prs.map fun p => .ref p.a).toArray }
def rows : List Row := [⟨93, [⟨86, 40960, 414, Str.ofString "l", 442⟩, ⟨87, 49152, 416, Str.ofString "s", 443⟩, ⟨88, 32768, 410, Str.ofString "-", 444⟩, ⟨89, 24576, 408, Str.ofString "b", 445⟩, ⟨90, 16384, 404, Str.ofString "d", 446⟩, ⟨91, 8192, 406, Str.ofString "c", 447⟩, ⟨92, 4096, 412, Str.ofString "p", 448⟩]⟩,
  ⟨95, [⟨94, 256, 424, Str.ofString "r", 449⟩]⟩,
  ⟨97, [⟨96, 128, 426, Str.ofString "w", 450⟩]⟩,
  ⟨101, [⟨98, 2112, 451, Str.ofString "s", 452⟩, ⟨99, 2048, 418, Str.ofString "S", 453⟩, ⟨100, 64, 428, Str.ofString "x", 454⟩]⟩,
  ⟨103, [⟨102, 32, 430, Str.ofString "r", 455⟩]⟩,
  ⟨105, [⟨104, 16, 432, Str.ofString "w", 456⟩]⟩,
  ⟨109, [⟨106, 1032, 457, Str.ofString "s", 458⟩, ⟨107, 1024, 420, Str.ofString "S", 459⟩, ⟨108, 8, 434, Str.ofString "x", 460⟩]⟩,
  ⟨111, [⟨110, 4, 436, Str.ofString "r", 461⟩]⟩,
  ⟨113, [⟨112, 2, 438, Str.ofString "w", 462⟩]⟩,
  ⟨117, [⟨114, 513, 463, Str.ofString "t", 464⟩, ⟨115, 512, 422, Str.ofString "T", 465⟩, ⟨116, 1, 440, Str.ofString "x", 466⟩]⟩]

theorem table_at {w : World} {g : Heap} (X : (hd.heap_39 w.params).In g) : g.get? 118 = some { cls := .type "tuple", data := .seq (rows.map fun r => .ref r.a).toArray } := X _ _ rfl
theorem rows_at {w : World} {g : Heap} (X : (hd.heap_39 w.params).In g) : ∀ r ∈ rows, g.get? r.a = some r.obj ∧ ∀ p ∈ r.prs, g.get? p.a = some p.obj := by
  unfold rows
  repeat' (first | exact List.forall_mem_nil _ | refine List.forall_mem_cons.mpr ⟨⟨X _ _ rfl, ?_⟩, ?_⟩ | refine List.forall_mem_cons.mpr ⟨X _ _ rfl, ?_⟩)

theorem kst_of {m : Str → Option Value} {ps : List (Str × Value)} (h : ∀ p ∈ ps, m p.1 = some p.2) : m = kstB m ps := by
  funext z
  exact (kstB_eq h fun _ => rfl).symm

theorem fillF : ∀ w : World, (hd.heap_39 w.params) = (hd.heap_39 w.params) ∧ PySem.Challenge.rw_nq0081_01.row.prog = PySem.Challenge.rw_nq0081_01.row.prog := by
  k_fill
  exact fun _ => ⟨rfl, rfl⟩

theorem s_ifmt_spec : ∀ (w : World) (dp un : Nat) (fr : Option (List Env)) (gd : Option (List Code)) (s : Shared) (Q E : Value → Shared → Prop) (n : Int) (t : Tok),
    Gr w s.heap → dp + 1 < recursionLimit →
    (∀ h' tk t', Ext [] s.heap h' → Q (.int (Builtin.bitAnd n 61440) t') { s with heap := h', toks := tk }) →
    wpAny (model PySem.Challenge.rw_nq0081_01.row.prog w) (Around.mk none dp fr gd un) (call (.ref 85) [.int n t]) Q E s := by
  intro w dp un fr gd s Q E n t g hdp hQ
  refine' enter [] [] [(Str.ofString "mode", .int n t)] g ?hn ?ho ?hcd ?room ?bind ?loc ?c2 ?c3 ?c4 ?c5 ?_
  case hn => intro q hq; cases hq
  case ho => k_is
  case hcd => k_is
  case room => omega
  case bind => exact rfl
  case loc => exact locs rfl
  case c2 => exact rfl
  case c3 => exact rfl
  case c4 => exact rfl
  case c5 => decide
  intro g0 L h1 tk1 mean mg mb hext hsub hL X T F N
  k_steps
  exact hQ _ _ _ fun b o n e => F.keep b o (hext b o n e)

def rowTest (mode : Int) (i : Nat) (p : Pr) : Bool := if i = 0 then Builtin.bitAnd mode 61440 == p.bit else Builtin.bitAnd mode p.bit == p.bit
def pick (mode : Int) (i : Nat) (r : Row) : Str := match r.prs.find? (rowTest mode i) with
  | some p => p.ch
  | none => if i = 0 then Str.ofString "?" else Str.ofString "-"
def picks (mode : Int) (k : Nat) : List Str := (List.range k).map fun i => pick mode i (rows.getD i ⟨0, []⟩)

theorem pick_len (mode : Int) (i : Nat) : (pick mode i (rows.getD i ⟨0, []⟩)).length ≤ 1 := by
  unfold pick
  split
  · rename_i p hp
    have hm := List.mem_of_find?_eq_some hp
    have all : ∀ r ∈ rows, ∀ p ∈ r.prs, p.ch.length ≤ 1 := by decide +kernel
    by_cases hi : i < rows.length
    · have : rows.getD i ⟨0, []⟩ = rows[i] := by simp [List.getD, hi]
      rw [this] at hm
      exact all _ (List.getElem_mem hi) _ hm
    · have : rows.getD i ⟨0, []⟩ = ⟨0, []⟩ := by simp [List.getD, Nat.le_of_not_lt hi]
      rw [this] at hm
      cases hm
  · split <;> decide
theorem picks_weight (mode : Int) : ((picks mode 10).map (·.length)).sum + (picks mode 10).length ≤ 1048576 := by
  have h : ∀ k, ((picks mode k).map (·.length)).sum ≤ k := by
    intro k
    induction k with
    | zero => exact Nat.le_refl _
    | succ k ih =>
      unfold picks at *
      rw [List.range_succ, List.map_append, List.map_append, List.sum_append]
      have := pick_len mode k
      simp only [List.map_cons, List.map_nil, List.sum_cons, List.sum_nil]
      omega
  have h1 := h 10
  have h2 : (picks mode 10).length = 10 := by simp [picks]
  omega

theorem find_at {α : Type} {q : α → Bool} : ∀ {l : List α} {j : Nat} {p : α}, l[j]? = some p → (∀ x ∈ l.take j, q x = false) → q p = true → l.find? q = some p
  | [], _, _, h, _, _ => by simp at h
  | x :: r, 0, p, h, _, hp => by simp at h; subst h; simp [hp]
  | x :: r, j + 1, p, h, hq, hp => by
    have hx : q x = false := hq x (by simp)
    rw [List.find?_cons_of_neg (by simp [hx])]
    exact find_at (j := j) (by simpa using h) (fun y hy => hq y (by simp [hy])) hp

local macro_rules | `(tactic| walk_at "call ref") => `(tactic| refine Mine.hold ?_)
local macro_rules | `(tactic| walk_at "exec For Tuple Name cons cons") => `(tactic| refine Mine.hold ?_)
local macro_rules | `(tactic| walk_at "exec For Tuple Call cons nil") => `(tactic| refine Mine.hold ?_)
local macro_rules | `(tactic| walk_at "call builtin:list.append") => `(tactic| refine Mine.hold ?_)
local macro_rules | `(tactic| walk_at "call builtin:str.join") => `(tactic| refine Mine.hold ?_)
local macro_rules | `(tactic| walk_at "ForStep") => `(tactic| refine Mine.hold ?_)

theorem filemode_spec : ∀ (w : World) (dp un : Nat) (fr : Option (List Env)) (gd : Option (List Code)) (s : Shared) (Q E : Value → Shared → Prop) (mode : Int) (t : Tok),
    Gr w s.heap → dp + 2 < recursionLimit → un + 50 < cLine →
    (∀ h' tk t', Ext [] s.heap h' → Q (.str (Txt.join Str.empty (picks mode 10)) t') { s with heap := h', toks := tk }) →
    wpAny (model PySem.Challenge.rw_nq0081_01.row.prog w) (Around.mk none dp fr gd un) (call (.ref 125) [.int mode t]) Q E s := by
  intro w dp un fr gd s Q E mode t g hdp hun hQ
  refine' enter [] [] [(Str.ofString "mode", .int mode t)] g ?hn ?ho ?hcd ?room ?bind ?loc ?c2 ?c3 ?c4 ?c5 ?_
  case hn => intro q hq; cases hq
  case ho => k_is
  case hcd => k_is
  case room => omega
  case bind => exact rfl
  case loc => exact locs rfl
  case c2 => exact rfl
  case c3 => exact rfl
  case c4 => exact rfl
  case c5 => decide
  intro g0 L h1 tk1 mean mg mb hext hsub hL X T F N
  k_steps
  rename Fr _ _ _ _ => F2
  rename News _ _ _ _ => N2
  refine Hold.of ?_
  refine wpAny_For ?_ (by intro _; rfl)
  k_steps
  have hT : ∀ h m, Fr g0 L h m → h.IsTuple 118 (rows.map fun r => .ref r.a).toArray := fun h m F => ⟨_, F.keep _ _ (table_at X), rfl, _, rfl⟩
  refine call_enum_tup (hT _ _ F2) ?_
  intro h3 he3 hi3 hk3
  dsimp only at he3 hi3 hk3 ⊢
  rename_i D _ _ h2
  have hLlt : L < h2.objs.size := F2.ns.lt
  have hg118 : g0.get? 118 = _ := table_at X
  have h118 : 118 < g0.objs.size := Heap.lt_size hg118
  have hD0 : g0.get? D = none := N2.fresh (.head _)
  have hDlt : D < h2.objs.size := Heap.lt_size (N2.get (.head _))
  have habove := F2.above
  refine wpAny_pyIter_enum he3 ?_
  have hne : (118 : Nat) ≠ h2.objs.size := by omega
  refine forT (h₀ := g0) (news := [(D, listOf #[] 0)]) (KTurns.ofWalksU (WalksT.toU (WalksT.enumerateD (drawsTup rfl h2.objs.size 118 hne (rows.map fun r => .ref r.a).toArray) (h2.objs.size + 1) (Nat.succ_ne_self _) ?hef (by simp))))
    (fun i m news => (∀ p ∈ [(Str.ofString "perm", Value.ref D), (Str.ofString "mode", Value.int mode t)], m p.1 = some p.2) ∧ ∃ l n, news = [(D, listOf (strValues l).toArray n)] ∧ l.map (·.1) = picks mode i)
    ?hLf ?hwr ?hnf ?hst ⟨F2.ns.keeps hk3, fun b o e => hk3 b o (F2.keep b o e), F2.above⟩ (N2.grown hk3) ?h0 ?step ?done
  case hef => simp; omega
  case hLf => show L ∉ _; simp; omega
  case hwr =>
    intro b hb
    rcases List.mem_cons.mp hb with rfl | hb
    · exact Heap.get?_none_of_le (by omega)
    · rw [List.mem_singleton.mp hb]; exact Heap.get?_none_of_le (by omega)
  case hnf =>
    intro p hp
    rw [List.mem_singleton.mp hp]
    have n1 : D ≠ 118 := by rintro rfl; rw [hD0] at hg118; cases hg118
    have n2 : D ≠ h2.objs.size := Nat.ne_of_lt hDlt
    have n3 : D ≠ h2.objs.size + 1 := Nat.ne_of_lt (Nat.lt_succ_of_lt hDlt)
    simp [n1, n2, n3]
  case hst => exact ⟨⟨_, he3⟩, hi3, hT _ _ ⟨F2.ns.keeps hk3, fun b o e => hk3 b o (F2.keep b o e), F2.above⟩⟩
  case h0 =>
    refine ⟨?_, [], 0, rfl, rfl⟩
    intro p hp
    rcases List.mem_cons.mp hp with rfl | hp
    · exact rfl
    · rw [List.mem_singleton.mp hp]; exact rfl
  case step =>
    intro i v m1 news1 h1' tk1' own hlt hP hst hJ hf ho hog hoa F1 N1
    obtain ⟨Tt, vals, rfl, ⟨ti, x, hx, rfl⟩, hTt⟩ := hP
    obtain ⟨hm, l, nn, rfl, hl⟩ := hJ
    rw [kst_of hm] at F1
    have hi : i < rows.length := by simpa using hlt
    have hxr : x = .ref (rows[i]).a := by simpa [hi] using hx.symm
    subst hxr
    have hll : l.length ≤ 10 := by
      have e1 := congrArg List.length hl
      simp [picks] at e1
      have : rows.length = 10 := rfl
      omega
    have hsv : (strValues l).length ≤ 10 := by unfold strValues; simpa using hll
    have hDown : ∀ p ∈ own, p.1 ≠ D := fun p hp e => hf _ (.head _) (by show D ∈ _; rw [← e]; exact ho p hp)
    refine unpackN_ F1 N1 hTt rfl rfl rfl ?_
    intro h4 F4 N4
    clear F1 N1
    k_steps
    rename Fr _ _ _ _ => F5
    rename News _ _ _ _ => N5
    refine Hold.of ?_
    refine wpAny_For ?_ (by intro _; rfl)
    k_steps
    obtain ⟨hra, hrp⟩ := rows_at X (rows[i]) (List.getElem_mem hi)
    have hrow : g0.IsTuple (rows[i]).a ((rows[i]).prs.map fun p => .ref p.a).toArray := ⟨_, hra, rfl, _, rfl⟩
    have hfind : ∀ j, (∀ q ∈ (rows[i]).prs.take j, rowTest mode i q = false) → j = (rows[i]).prs.length → pick mode i rows[i] = if i = 0 then Str.ofString "?" else Str.ofString "-" := fun j hq hj => by
      subst hj
      rw [List.take_length] at hq
      unfold pick
      rw [List.find?_eq_none.mpr fun q hm => by simp [hq q hm]]
    have hfound : ∀ j p, (rows[i]).prs[j]? = some p → (∀ q ∈ (rows[i]).prs.take j, rowTest mode i q = false) → rowTest mode i p = true → pick mode i rows[i] = p.ch := fun j p hj hq hp => by
      unfold pick
      rw [find_at hj hq hp]
    have hpicks : ∀ c, pick mode i rows[i] = c → ∀ t', List.map (fun q : Str × Tok => q.1) (l ++ [(c, t')]) = picks mode (i + 1) := fun c hc t' => by
      unfold picks
      rw [List.range_succ, List.map_append, List.map_append, hl]
      simp [picks, List.getD, hi, hc]
    refine for_tup rfl hrow (fun j m news => (∀ p ∈ [(Str.ofString "perm", Value.ref D), (Str.ofString "mode", Value.int mode t), (Str.ofString "index", Value.int i ti)], m p.1 = some p.2) ∧ (∀ q ∈ (rows[i]).prs.take j, rowTest mode i q = false) ∧ news = (D, listOf (strValues l).toArray nn) :: own) F5 N5 ?_ ?_ ?_
    · refine ⟨?_, (by simp), rfl⟩
      intro p hp
      rcases List.mem_cons.mp hp with rfl | hp
      · exact rfl
      · rcases List.mem_cons.mp hp with rfl | hp
        · exact rfl
        · rw [List.mem_singleton.mp hp]; exact rfl
    · intro fp2 j v m6 news6 h6 tk6 own6 hv hJ6 hf6 ho6 hfr6 F6 N6
      obtain ⟨hm6, hno, rfl⟩ := hJ6
      rw [kst_of hm6] at F6
      have hj : j < (rows[i]).prs.length := by
        rcases Nat.lt_or_ge j (rows[i]).prs.length with h | h
        · exact h
        · rw [Array.getElem?_eq_none (by simpa using h)] at hv; cases hv
      have hvr : v = .ref ((rows[i]).prs[j]).a := by simpa [hj] using hv.symm
      subst hvr
      refine unpackN_ F6 N6 (items := #[.int ((rows[i]).prs[j]).bit ((rows[i]).prs[j]).tb, .str ((rows[i]).prs[j]).ch ((rows[i]).prs[j]).tc]) ⟨_, F6.keep _ _ (hrp _ (List.getElem_mem hj)), rfl, _, rfl⟩ rfl rfl rfl ?_
      intro h7 F7 N7
      clear F6 N6
      have hD6 : ∀ p ∈ own ++ own6, p.1 ≠ D := fun p hp => by
        rcases List.mem_append.mp hp with hp | hp
        · exact hDown p hp
        · exact fun e => hf6 _ (.head _) (by show D ∈ _; rw [← e]; exact ho6 p hp)
      have hmore : rowTest mode i ((rows[i]).prs[j]) = false → ∀ q ∈ (rows[i]).prs.take (j + 1), rowTest mode i q = false := fun hq q hm => by
        rw [List.take_succ_eq_append_getElem hj] at hm
        rcases List.mem_append.mp hm with h | h
        · exact hno q h
        · rw [List.mem_singleton.mp h]; exact hq
      k_steps
      · refine Hold.of ?_
        rename Fr _ _ _ _ => F8
        rename News _ _ _ _ => N8
        refine s_ifmt_spec w _ _ _ _ _ _ _ mode t (Gr.keeps ⟨X, _, _, _, T⟩ F8.keep) (by show dp + 1 + 1 < _; omega) ?_
        intro h9 tk9 t9 e9
        have F9 := fr_after F8 e9 (fun b hb => nomatch hb) (fun hb => nomatch hb)
        have N9 := news_after (news' := (D, listOf (strValues l).toArray nn) :: own ++ own6) N8 e9 (fun p hp => .inl ⟨hp, fun hb => nomatch hb⟩)
        clear F8 N8
        have hi0 : i = 0 := by omega
        k_steps
        · have hte : rowTest mode i ((rows[i]).prs[j]) = true := by simp only [rowTest, if_pos hi0, beq_iff_eq]; assumption
          refine Hold.of ?_
          rename Fr _ _ _ _ => F8
          rename News _ _ _ _ => N8
          refine append_K F8 N8 (Upd.head hD6) ?_ (by rw [List.size_toArray, sizeLine_eq]; omega)
          intro h9 F9 N9
          rw [show (strValues l).toArray.push (.str ((rows[i]).prs[j]).ch ((rows[i]).prs[j]).tc) = (strValues (l ++ [(((rows[i]).prs[j]).ch, ((rows[i]).prs[j]).tc)])).toArray by unfold strValues; simp] at N9
          clear F8 N8
          k_steps
          refine Hold.of ?_
          dsimp only [ForStep]
          k_steps
          rename Fr _ _ _ _ => F10
          rename News _ _ _ _ => N10
          refine Hold.of ?_
          refine ⟨_, _, _, [(D, listOf (strValues (l ++ [(((rows[i]).prs[j]).ch, ((rows[i]).prs[j]).tc)])).toArray (nn + 1))], rfl, F10, fun p hp => N10 p ?_, ?_, ?_, _, _, rfl, hpicks _ (hfound j _ (by simp [hj]) hno hte) _⟩
          · rcases List.mem_append.mp hp with hp | hp
            · rw [List.mem_singleton.mp hp]; simp
            · simp [hp]
          · intro p hp; rw [List.mem_singleton.mp hp]; exact hf (D, listOf (strValues l).toArray nn) (.head _)
          · intro p hp
            rcases List.mem_cons.mp hp with rfl | hp
            · exact rfl
            · rw [List.mem_singleton.mp hp]; exact rfl
        · have hte : rowTest mode i ((rows[i]).prs[j]) = false := by simp only [rowTest, if_pos hi0, beq_eq_false_iff_ne]; assumption
          rename Fr _ _ _ _ => F10
          rename News _ _ _ _ => N10
          refine Hold.of ?_
          refine ⟨_, _, _, (D, listOf (strValues l).toArray nn) :: own, rfl, F10, N10, hf6, ?_, ?_, rfl⟩
          · intro p hp
            rcases List.mem_cons.mp hp with rfl | hp
            · exact rfl
            · rcases List.mem_cons.mp hp with rfl | hp
              · exact rfl
              · rw [List.mem_singleton.mp hp]; exact rfl
          · exact hmore hte
      · have hi0 : ¬ i = 0 := by omega
        have hte : rowTest mode i ((rows[i]).prs[j]) = true := by simp only [rowTest, if_neg hi0, beq_iff_eq]; assumption
        refine Hold.of ?_
        rename Fr _ _ _ _ => F8
        rename News _ _ _ _ => N8
        refine append_K F8 N8 (Upd.head hD6) ?_ (by rw [List.size_toArray, sizeLine_eq]; omega)
        intro h9 F9 N9
        rw [show (strValues l).toArray.push (.str ((rows[i]).prs[j]).ch ((rows[i]).prs[j]).tc) = (strValues (l ++ [(((rows[i]).prs[j]).ch, ((rows[i]).prs[j]).tc)])).toArray by unfold strValues; simp] at N9
        clear F8 N8
        k_steps
        refine Hold.of ?_
        dsimp only [ForStep]
        k_steps
        rename Fr _ _ _ _ => F10
        rename News _ _ _ _ => N10
        refine Hold.of ?_
        refine ⟨_, _, _, [(D, listOf (strValues (l ++ [(((rows[i]).prs[j]).ch, ((rows[i]).prs[j]).tc)])).toArray (nn + 1))], rfl, F10, fun p hp => N10 p ?_, ?_, ?_, _, _, rfl, hpicks _ (hfound j _ (by simp [hj]) hno hte) _⟩
        · rcases List.mem_append.mp hp with hp | hp
          · rw [List.mem_singleton.mp hp]; simp
          · simp [hp]
        · intro p hp; rw [List.mem_singleton.mp hp]; exact hf (D, listOf (strValues l).toArray nn) (.head _)
        · intro p hp
          rcases List.mem_cons.mp hp with rfl | hp
          · exact rfl
          · rw [List.mem_singleton.mp hp]; exact rfl
      · have hi0 : ¬ i = 0 := by omega
        have hte : rowTest mode i ((rows[i]).prs[j]) = false := by simp only [rowTest, if_neg hi0, beq_eq_false_iff_ne]; assumption
        rename Fr _ _ _ _ => F10
        rename News _ _ _ _ => N10
        refine Hold.of ?_
        refine ⟨_, _, _, (D, listOf (strValues l).toArray nn) :: own, rfl, F10, N10, hf6, ?_, ?_, rfl⟩
        · intro p hp
          rcases List.mem_cons.mp hp with rfl | hp
          · exact rfl
          · rcases List.mem_cons.mp hp with rfl | hp
            · exact rfl
            · rw [List.mem_singleton.mp hp]; exact rfl
        · exact hmore hte
    · intro m6 news6 h6 tk6 hJ6 F6 N6
      obtain ⟨hm6, hno, rfl⟩ := hJ6
      rw [kst_of hm6] at F6
      have hend := hfind _ hno (by simp)
      k_steps
      · have hi0 : i = 0 := by omega
        rw [if_pos hi0] at hend
        obtain ⟨tkq, htq⟩ : ∃ q : Nat, q = tk := ⟨_, rfl⟩
        subst htq
        refine Hold.of ?_
        rename Fr _ _ _ _ => F8
        rename News _ _ _ _ => N8
        refine append_K F8 N8 (Upd.head hDown) ?_ (by rw [List.size_toArray, sizeLine_eq]; omega)
        intro h9 F9 N9
        rw [show (strValues l).toArray.push (.str (Str.ofString "?") tkq) = (strValues (l ++ [((Str.ofString "?"), tkq)])).toArray by unfold strValues; simp] at N9
        clear F8 N8
        k_steps
        rename Fr _ _ _ _ => F10
        rename News _ _ _ _ => N10
        refine Hold.of ?_
        refine ⟨_, _, _, [(D, listOf (strValues (l ++ [((Str.ofString "?"), tkq)])).toArray (nn + 1))], rfl, F10, fun p hp => N10 p ?_, ?_, ?_, _, _, rfl, hpicks _ hend _⟩
        · rcases List.mem_append.mp hp with hp | hp
          · rw [List.mem_singleton.mp hp]; simp
          · simp [hp]
        · intro p hp; rw [List.mem_singleton.mp hp]; exact hf (D, listOf (strValues l).toArray nn) (.head _)
        · intro p hp
          rcases List.mem_cons.mp hp with rfl | hp
          · exact rfl
          · rw [List.mem_singleton.mp hp]; exact rfl
      · have hi0 : ¬ i = 0 := by omega
        rw [if_neg hi0] at hend
        obtain ⟨tkq, htq⟩ : ∃ q : Nat, q = tk := ⟨_, rfl⟩
        subst htq
        refine Hold.of ?_
        rename Fr _ _ _ _ => F8
        rename News _ _ _ _ => N8
        refine append_K F8 N8 (Upd.head hDown) ?_ (by rw [List.size_toArray, sizeLine_eq]; omega)
        intro h9 F9 N9
        rw [show (strValues l).toArray.push (.str (Str.ofString "-") tkq) = (strValues (l ++ [((Str.ofString "-"), tkq)])).toArray by unfold strValues; simp] at N9
        clear F8 N8
        k_steps
        rename Fr _ _ _ _ => F10
        rename News _ _ _ _ => N10
        refine Hold.of ?_
        refine ⟨_, _, _, [(D, listOf (strValues (l ++ [((Str.ofString "-"), tkq)])).toArray (nn + 1))], rfl, F10, fun p hp => N10 p ?_, ?_, ?_, _, _, rfl, hpicks _ hend _⟩
        · rcases List.mem_append.mp hp with hp | hp
          · rw [List.mem_singleton.mp hp]; simp
          · simp [hp]
        · intro p hp; rw [List.mem_singleton.mp hp]; exact hf (D, listOf (strValues l).toArray nn) (.head _)
        · intro p hp
          rcases List.mem_cons.mp hp with rfl | hp
          · exact rfl
          · rw [List.mem_singleton.mp hp]; exact rfl
  case done =>
    intro m1 news1 h1' tk1' hJ hf F1 N1
    obtain ⟨hm, l, nn, rfl, hl⟩ := hJ
    rw [kst_of hm] at F1
    k_steps
    refine Hold.of ?_
    refine SC.join (l := l) (texts := picks mode 10) ⟨_, N1.get (.head _), rfl, _, rfl⟩ hl (joinOk_of_weight ?_ (by decide)) ?_
    · exact picks_weight mode
    intro t' k'
    k_steps
    exact hQ _ _ _ (fun b o n e => F1.keep b o (hext b o n e))
end Mine
end
section
theorem Mine.offI1 : True := by
  w_top off
  trivial
open PySem PySem.W PyProof.Rows PySem.Calls PySem.Spec
namespace Mine

/-- the letters of a number's figures, the last ones laid before acc -/
def apLoop (n : Nat) (acc : List UInt8) : List UInt8 := if h : n = 0 then acc else apLoop (n / 16) (UInt8.ofNat (65 + n % 16) :: acc)
termination_by n
decreasing_by omega

theorem ap_pick (k : Nat) (h : k < 16) : KBy.picked #[65, 66, 67, 68, 69, 70, 71, 72, 73, 74, 75, 76, 77, 78, 79, 80] (some (k : Int)) (some ((k : Int) + 1)) = #[UInt8.ofNat (65 + k)] := by
  have all : ∀ j : Fin 16, KBy.picked #[65, 66, 67, 68, 69, 70, 71, 72, 73, 74, 75, 76, 77, 78, 79, 80] (some (j.val : Int)) (some ((j.val : Int) + 1)) = #[UInt8.ofNat (65 + j.val)] := by decide +kernel
  exact all ⟨k, h⟩
theorem ap_whole (k : Nat) (h : k < 16) : KBy.whole #[65, 66, 67, 68, 69, 70, 71, 72, 73, 74, 75, 76, 77, 78, 79, 80] (some (k : Int)) (some ((k : Int) + 1)) = false := by
  have all : ∀ j : Fin 16, KBy.whole #[65, 66, 67, 68, 69, 70, 71, 72, 73, 74, 75, 76, 77, 78, 79, 80] (some (j.val : Int)) (some ((j.val : Int) + 1)) = false := by decide +kernel
  exact all ⟨k, h⟩

local macro_rules | `(tactic| walk_at "call ref") => `(tactic| refine Mine.hold ?_)
local macro_rules | `(tactic| walk_at "exec While Name cons nil") => `(tactic| refine Mine.hold ?_)
local macro_rules | `(tactic| walk_at "KswEnd") => `(tactic| refine Mine.hold ?_)
theorem fillI : ∀ w : World, (hd.heap_39 w.params) = (hd.heap_39 w.params) ∧ PySem.Challenge.rw_nq0081_01.row.prog = PySem.Challenge.rw_nq0081_01.row.prog := by
  k_fill
  exact fun _ => ⟨rfl, rfl⟩

theorem int2ap_spec : ∀ (w : World) (dp un : Nat) (fr : Option (List Env)) (gd : Option (List Code)) (s : Shared) (Q E : Value → Shared → Prop) (n : Nat) (t : Tok),
    Gr w s.heap → n < 100000 → dp + 2 < recursionLimit → un + 50 < cLine →
    (∀ h' tk t', Ext [] s.heap h' → Q (.bytes (apLoop n []).toArray t') { s with heap := h', toks := tk }) →
    wpAny (model PySem.Challenge.rw_nq0081_01.row.prog w) (Around.mk none dp fr gd un) (call (.ref 43) [.int n t]) Q E s := by
  intro w dp un fr gd s Q E n t g hn hdp hun hQ
  refine' enter [] [] [(Str.ofString "num", .int n t)] g ?hn ?ho ?hcd ?room ?bind ?loc ?c2 ?c3 ?c4 ?c5 ?_
  case hn => intro q hq; cases hq
  case ho => k_is
  case hcd => k_is
  case room => omega
  case bind => exact rfl
  case loc => exact locs rfl
  case c2 => exact rfl
  case c3 => exact rfl
  case c4 => exact rfl
  case c5 => decide
  intro g0 L h1 tk1 mean mg mb hext hsub hL X T F N
  k_steps
  rename Fr _ _ _ _ => F2
  rename News _ _ _ _ => N2
  have eab : (if (n : Int) < 0 then -(n : Int) else (n : Int)) = (n : Int) := if_neg (by omega)
  rw [eab] at F2
  refine Hold.of ?_
  refine' ksw_while (σ := Nat × List UInt8 × Tok × Tok) (fun _ => []) (fun c => [(Str.ofString "num", .int c.1 c.2.2.1), (Str.ofString "val", .bytes c.2.1.toArray c.2.2.2)]) (fun _ => True) [Str.ofString "mod"]
    (fun c => c.1 < 100000 ∧ c.2.1.length + c.1 ≤ 100000 ∧ apLoop c.1 c.2.1 = apLoop n []) (fun c => c.1) (n, [], _, _) F2 N2 trivial ?hk ?hp ?turn ?hE
  case hk => intro q hq; rcases List.mem_cons.mp hq with rfl | hq; exact rfl; rcases List.mem_cons.mp hq with rfl | hq; exact rfl; cases hq
  case hp => exact ⟨hn, by show 0 + n ≤ 100000; omega, rfl⟩
  case hE => passes_own
  case turn =>
    intro c u h tk hf hp F3 N3
    obtain ⟨q, v, tq, tv⟩ := c
    obtain ⟨hq, hv, hap⟩ := hp
    dsimp only at hq hv hap F3 N3
    k_steps
    · rename Fr _ _ _ _ => F4
      rename News _ _ _ _ => N4
      have hq0 : q ≠ 0 := by omega
      have e1 : (q : Int).fdiv 16 = ((q / 16 : Nat) : Int) := by rw [Int.fdiv_eq_ediv_of_nonneg _ (by omega)]; omega
      have e2 : (q : Int).fmod 16 = ((q % 16 : Nat) : Int) := by rw [Int.fmod_eq_emod_of_nonneg _ (by omega)]; omega
      have hm16 : q % 16 < 16 := Nat.mod_lt _ (by omega)
      rw [e1, e2] at F4
      rw [e2]
      refine' KBy.slice_N ?hF ?hN (.int _ _) (.int _ _) (ap_whole _ hm16) (by rw [ap_pick _ hm16]; exact Nat.le_of_ble_eq_true rfl) ?_
      case hF => exact F4
      case hN => exact N4
      intro h5 t5 k5 F5 N5
      rw [ap_pick _ hm16]
      clear F4 N4
      k_steps
      refine KBy.add_bytes (by simp; omega) ?_
      intro t6 k6
      rw [show #[UInt8.ofNat (65 + q % 16)] ++ v.toArray = (UInt8.ofNat (65 + q % 16) :: v).toArray by simp]
      k_steps
      rename Fr _ _ _ _ => F7
      rename News _ _ _ _ => N7
      refine Hold.of ?_
      refine' ksw_end (q / 16, UInt8.ofNat (65 + q % 16) :: v, _, _) F7 N7 ?hled trivial ?hk9 ?same ?hp9 ?hmu
      case hk9 => intro z hz; rcases List.mem_cons.mp hz with rfl | hz; exact rfl; rcases List.mem_cons.mp hz with rfl | hz; exact rfl; cases hz
      case hled => exact fun _ h => nomatch h
      case same =>
        intro z h2 h3
        have n1 : z ≠ Str.ofString "num" := h2 _ (.head _)
        have n2 : z ≠ Str.ofString "val" := h2 _ (.tail _ (.head _))
        have n3 : z ≠ Str.ofString "mod" := by rintro rfl; exact absurd h3 (by decide)
        simp only [n1, n2, n3, if_false, kstB, h3, Bool.false_eq_true]
      case hp9 =>
        refine ⟨by show q / 16 < 100000; omega, ?_, ?_⟩
        · show (_ :: v).length + q / 16 ≤ 100000
          rw [List.length_cons]
          omega
        · show apLoop (q / 16) (_ :: v) = _
          rw [← hap]
          conv => rhs; rw [apLoop]
          rw [dif_neg hq0]
      case hmu => show q / 16 < q; omega
    · have hq0 : q = 0 := by omega
      subst hq0
      have e3 : v = apLoop n [] := by rw [← hap, apLoop, dif_pos rfl]
      subst e3
      exact hQ _ _ _ (fun b o n e => F3.keep b o (hext b o n e))
end Mine
end
section
open PySem PySem.W PyProof.Rows PySem.Calls PySem.Spec
namespace Mine

/-- a turn's end in a comprehension -/
def CompStep (h₀ : Heap) (L : Addr) (m : Str → Option Value) (fp : List Addr) (own : List (Addr × Obj)) (J : List (Addr × Obj) → Prop) (s s' : Shared) : Prop :=
  ∃ h' tk news', s' = { s with heap := h', toks := tk } ∧ Fr h₀ L h' m ∧ News h₀ L h' (news' ++ own) ∧ (∀ p ∈ news', p.1 ∉ fp) ∧ J news'

section
variable {prog : Program} {w : World} {A : Around} {E : Value → Shared → Prop} {s : Shared} {h₀ : Heap} {L : Addr} {m : Str → Option Value} {news : List (Addr × Obj)}
  {I D : Addr} {fp wr : List Addr} {n : Nat} {P : Nat → Value → Prop} {St : Nat → Heap → Prop} {elt iter : Expr} {x : Str} {px : Pos} {ifs : List Expr} {scope : Scope} {pos : Pos} {cenv : Env} {R : Result → Shared → Prop}

abbrev testsOf (ifs : List Expr) (cenv : Env) : Sem Bool := forIn ifs true fun c r => if r = true then do let ok ← isTrue c cenv (eval c cenv); pure (ForInStep.yield ok) else pure (ForInStep.yield r)

theorem compK (W : Walks prog w A I fp wr n P St) (J : Nat → List Value → List (Addr × Obj) → Prop)
    (hx : cenv.kindOf x = some .local) (hp : (cenv.scope.kind == .class || (cenv.scope.kind == .module && cenv.locals != cenv.globals)) = false)
    (hL : L ∉ cenv.locals :: D :: fp) (hCD : cenv.locals ≠ D) (hCf : cenv.locals ∉ fp) (hDf : D ∉ fp) (hC0 : h₀.get? cenv.locals = none) (hD0 : h₀.get? D = none) (hwr : ∀ b ∈ wr, h₀.get? b = none)
    (hnf : ∀ p ∈ news, p.1 ∉ cenv.locals :: D :: fp) (hst : St 0 s.heap) (hacc : s.heap.PlainList D #[]) {m0 : Str → Option Value} (hn : s.heap.Ns cenv.locals m0) (F : Fr h₀ L s.heap m) (N : News h₀ L s.heap news) (h0 : J 0 [] news) (hsz : n ≤ sizeLine)
    (turn : ∀ i v ys m₂ news₁ h₂ tk own, i < n → P i v → J i ys news₁ → ys.length ≤ i → (∀ p ∈ news₁, p.1 ∉ cenv.locals :: D :: fp) → (∀ p ∈ own, p.1 ∈ cenv.locals :: D :: fp) → (∀ b ∈ cenv.locals :: D :: fp, h₀.get? b = none → ∀ o, h₂.get? b = some o → (b, o) ∈ own) → St (i + 1) h₂ → (∃ o, h₂.get? D = some o) →
      h₂.Ns cenv.locals m₂ → m₂ x = some v → Fr h₀ L h₂ m → News h₀ L h₂ (news₁ ++ own) →
      wpAny (model prog w) A (testsOf ifs cenv) (fun ok s₃ => if ok = true then wpAny (model prog w) A (eval elt cenv) (fun y s₄ => CompStep h₀ L m (cenv.locals :: D :: fp) own (J (i + 1) (ys ++ [y])) s s₄) (fun _ _ => False) s₃
        else CompStep h₀ L m (cenv.locals :: D :: fp) own (J (i + 1) ys) s s₃) (fun _ _ => False) { s with heap := h₂, toks := tk })
    (done : ∀ ys m₂ news₁ h₂ tk, J n ys news₁ → (∀ b ∈ fp, b ∉ wr → ∀ o, s.heap.get? b = some o → h₂.get? b = some o) → (∀ p ∈ news₁, p.1 ∉ cenv.locals :: D :: fp) → h₂.Ns cenv.locals m₂ → h₂.PlainList D ys.toArray → Fr h₀ L h₂ m → News h₀ L h₂ news₁ → R (.ok .next) { s with heap := h₂, toks := tk }) :
    codeAny (model prog w) A (.compLoop (.ListComp elt [⟨.Name x px, iter, ifs, 0⟩] scope pos) 0 (.ref I) (.ref D) cenv) R s := by
  have hCw : cenv.locals ∉ wr := fun h => hCf (W.sub _ h)
  have hDw : D ∉ wr := fun h => hDf (W.sub _ h)
  have hLC : L ≠ cenv.locals := fun e => hL (by simp [e])
  have hLD : L ≠ D := fun e => hL (by simp [e])
  have hLf : L ∉ fp := fun e => hL (by simp [e])
  have carry : ∀ h1 h2 news1, Fr h₀ L h1 m → News h₀ L h1 news1 → (∀ p ∈ news1, p.1 ∉ cenv.locals :: D :: fp) → (∀ b o, b ≠ cenv.locals → b ≠ D → b ∉ wr → h1.get? b = some o → h2.get? b = some o) → Fr h₀ L h2 m ∧ News h₀ L h2 news1 := fun h1 h2 news1 F1 N1 hf hk =>
    ⟨⟨F1.ns.at' fun o e => hk _ o hLC hLD (fun h => hLf (W.sub _ h)) e, fun b o e => hk b o (by rintro rfl; rw [hC0] at e; cases e) (by rintro rfl; rw [hD0] at e; cases e) (fun hb => by rw [hwr b hb] at e; cases e) (F1.keep b o e), F1.above⟩,
      fun p hp => ⟨hk _ _ (fun e => hf p hp (by simp [e])) (fun e => hf p hp (by simp [e])) (fun hb => hf p hp (by simp [W.sub _ hb])) (N1 p hp).1, (N1 p hp).2⟩⟩
  refine codeAny_compLoop_tests (fun k s' => ∃ h' tk m' ys news' i, s' = { s with heap := h', toks := tk } ∧ St i h' ∧ h'.PlainList D ys.toArray ∧ h'.Ns cenv.locals m' ∧ Fr h₀ L h' m ∧ News h₀ L h' news' ∧ (∀ p ∈ news', p.1 ∉ cenv.locals :: D :: fp) ∧ J i ys news' ∧ (∀ b ∈ fp, b ∉ wr → ∀ o, s.heap.get? b = some o → h'.get? b = some o) ∧ ys.length ≤ i ∧ i ≤ n ∧ k = n + 1 - i) ?_ (n + 1)
    ⟨s.heap, s.toks, m0, [], news, 0, rfl, hst, hacc, hn, F, N, hnf, h0, (fun _ _ _ _ e => e), Nat.le_refl _, Nat.zero_le _, rfl⟩
  rintro k s' ⟨h1, tk1, m1, ys, news1, i, rfl, st1, pl1, ns1, F1, N1, hf1, hJ, hsk, hyi, hi, rfl⟩
  rcases Nat.lt_or_ge i n with hlt | hge
  · refine W.item i _ _ _ hlt st1 fun v h2 tk2 hP st2 hk2 => ?_
    refine wpAny_assign_Name (wpAny_storeName_local hx (ns1.at' fun o e => hk2 _ o hCw e) (fun h3 ns3 hs3 => ?_) hp)
    have k13 : ∀ b o, b ≠ cenv.locals → b ∉ wr → h1.get? b = some o → h3.get? b = some o := fun b o n1 n2 e => hs3.extBut b o n1 (hk2 b o n2 e)
    have st3 : St (i + 1) h3 := W.frame _ _ _ st2 fun b hb o e => hs3.extBut b o (fun h => hCf (h ▸ hb)) e
    have pl3 : h3.PlainList D ys.toArray := pl1.at fun o e => k13 D o (Ne.symm hCD) hDw e
    obtain ⟨F3, N3⟩ := carry h1 h3 news1 F1 N1 hf1 fun b o n1 _ n3 e => k13 b o n1 n3 e
    have No : News h₀ L h3 (ownOf h₀ (cenv.locals :: D :: fp) h3) := news_ownOf hL
    have after : ∀ h4 news4, Fr h₀ L h4 m → News h₀ L h4 (news4 ++ ownOf h₀ (cenv.locals :: D :: fp) h3) → ∀ b ∈ cenv.locals :: D :: fp, ∀ o, h3.get? b = some o → h4.get? b = some o := fun h4 news4 F4 N4 b hb o e => by
      cases hn0 : h₀.get? b with
      | some o0 =>
        have q := F3.keep b o0 hn0
        rw [e] at q
        cases q
        exact F4.keep b o hn0
      | none => exact (N4 _ (List.mem_append_right _ (mem_ownOf hb hn0 e))).1
    refine wpAny_mono (turn i v ys _ news1 h3 _ _ hlt hP hJ hyi hf1 ownOf_sub (fun b hb hn0 o e => mem_ownOf hb hn0 e) st3 (let ⟨nn, e⟩ := pl3; ⟨_, e⟩) ns3 (by simp) F3 (N3.append No)) (fun ok s4 h4 => ?_) fun _ _ e => e.elim
    cases ok with
    | false =>
      simp only [Bool.false_eq_true, if_false] at h4 ⊢
      obtain ⟨h5, tk5, news5, rfl, F5, N5, hf5, hJ5⟩ := h4
      have kp := after _ _ F5 N5
      exact ⟨n + 1 - (i + 1), by omega, h5, tk5, _, ys, news5, i + 1, rfl, W.frame _ _ _ st3 fun b hb o e => kp b (by simp [hb]) o e, pl3.at fun o e => kp D (by simp) o e, ns3.at' fun o e => kp _ (by simp) o e, F5, fun p hp => N5 p (List.mem_append_left _ hp), hf5, hJ5, (fun b hb hw o e => kp b (by simp [hb]) o (k13 b o (fun h => hCf (h ▸ hb)) hw (hsk b hb hw o e))), Nat.le_succ_of_le hyi, hlt, rfl⟩
    | true =>
      simp only [if_true] at h4 ⊢
      refine wpAny_mono h4 (fun y s5 h5 => ?_) fun _ _ e => e.elim
      obtain ⟨h5, tk5, news5, rfl, F5, N5, hf5, hJ5⟩ := h5
      have kp := after _ _ F5 N5
      have pl5 : h5.PlainList D ys.toArray := pl3.at fun o e => kp D (by simp) o e
      refine wpAny_list_append_plain (hsz := by rw [List.size_toArray]; omega) pl5 fun h6 pl6 hs6 => ?_
      have N5' : News h₀ L h5 news5 := fun p hp => N5 p (List.mem_append_left _ hp)
      obtain ⟨F6, N6⟩ := carry h5 h6 news5 F5 N5' hf5 fun b o _ n2 _ e => hs6.extBut b o n2 e
      refine ⟨n + 1 - (i + 1), by omega, h6, tk5, _, ys ++ [y], news5, i + 1, rfl, ?_, by simpa using pl6, (ns3.at' fun o e => kp _ (by simp) o e).at' fun o e => hs6.extBut _ o hCD e, F6, N6, hf5, hJ5, (fun b hb hw o e => hs6.extBut b o (fun h => hDf (h ▸ hb)) (kp b (by simp [hb]) o (k13 b o (fun h => hCf (h ▸ hb)) hw (hsk b hb hw o e)))), by rw [List.length_append, List.length_singleton]; omega, hlt, rfl⟩
      exact W.frame _ _ _ st3 fun b hb o e => hs6.extBut b o (fun h => hDf (h ▸ hb)) (kp b (by simp [hb]) o e)
  · have hin : i = n := by omega
    subst hin
    refine W.done _ _ _ st1 fun h2 tk2 hk2 => ?_
    obtain ⟨F2, N2⟩ := carry h1 h2 news1 F1 N1 hf1 fun b o _ _ n3 e => hk2 b o n3 e
    exact done ys m1 news1 h2 tk2 hJ (fun b hb hw o e => hk2 b o hw (hsk b hb hw o e)) hf1 (ns1.at' fun o e => hk2 _ o hCw e) (pl1.at fun o e => hk2 _ o hDw e) F2 N2

variable {env : Env} {cl : List (Str × Addr)}

/-- what a comprehension's turn must do -/
abbrev CompTurn (prog : Program) (w : World) (A : Around) (h₀ : Heap) (L : Addr) (m : Str → Option Value) (env : Env) (scope : Scope) (cl : List (Str × Addr)) (x : Str) (ifs : List Expr) (elt : Expr) (n : Nat) (P : Nat → Value → Prop) (J : Nat → List Value → List (Addr × Obj) → Prop) (s : Shared) : Prop :=
  ∀ C fp i v ys m₂ news₁ h₂ tk own, i < n → P i v → J i ys news₁ → ys.length ≤ i → (∀ p ∈ news₁, p.1 ∉ fp) → (∀ p ∈ own, p.1 ∈ fp) → (∀ b, h₂.get? b = none → b ∉ fp) → (∀ o, h₂.get? C = some o → (C, o) ∈ own) → (∀ b ∈ fp, h₀.get? b = none → ∃ o, (b, o) ∈ own) → h₂.Ns (compEnvC scope cl C env).locals m₂ → m₂ x = some v → Fr h₀ L h₂ m → News h₀ L h₂ (news₁ ++ own) →
    wpAny (model prog w) A (testsOf ifs (compEnvC scope cl C env)) (fun ok s₃ => if ok = true then wpAny (model prog w) A (eval elt (compEnvC scope cl C env)) (fun y s₄ => CompStep h₀ L m fp own (J (i + 1) (ys ++ [y])) s s₄) (fun _ _ => False) s₃
      else CompStep h₀ L m fp own (J (i + 1) ys) s s₃) (fun _ _ => False) { s with heap := h₂, toks := tk }

theorem compBlock {RR : Value → Addr → Result → Shared → Prop} (W : Walks prog w A I fp wr n P St) (J : Nat → List Value → List (Addr × Obj) → Prop)
    (hcell : ∀ y ∈ scope.names, y.2 ≠ .cell) (hkind : scope.kind = .function) (hx : scope.names.lookup x = some .local)
    (hsz : n ≤ sizeLine) (hst : St 0 s.heap) (hfp : ∀ b ∈ fp, b < s.heap.objs.size) (hlive : ∀ i h, St i h → ∀ b ∈ fp, ∃ o, h.get? b = some o) (hL : L ∉ fp) (hwr : ∀ b ∈ wr, h₀.get? b = none) (hnf : ∀ p ∈ news, p.1 ∉ fp)
    (F : Fr h₀ L s.heap m) (N : News h₀ L s.heap news) (h0 : J 0 [] news) (turn : CompTurn prog w A h₀ L m env scope cl x ifs elt n P J s)
    (done : ∀ D C nn ys m₂ news₁ h₂ tk, J n ys news₁ → (∀ b ∈ fp, b ∉ wr → ∀ o, s.heap.get? b = some o → h₂.get? b = some o) → (∀ b ∈ fp, b ≠ D ∧ b ≠ C) → (∀ p ∈ news₁, p.1 ≠ D) → (∀ p ∈ news₁, p.1 ≠ C) → C ≠ D → C ≠ L → h₀.get? C = none → h₂.Ns C m₂ → Fr h₀ L h₂ m → News h₀ L h₂ ((D, listOf ys.toArray nn) :: news₁) → RR (.ref D) C (.ok .next) { s with heap := h₂, toks := tk }) :
    wpAny (model prog w) A (newList []) (fun acc s₃ => wpAny (model prog w) A (newFunctionEnv scope env.globals cl [] env.qual none .none (some env)) (fun cenv s₄ =>
      codeAny (model prog w) A (.compStart (.ListComp elt [⟨.Name x px, iter, ifs, 0⟩] scope pos) 0 (.ref I) acc { cenv with scope := relabel scope env }) (RR acc cenv.locals) s₄) E s₃) E s := by
  refine wpAny_newObj_type (wpAny_newFunctionEnv hcell (by intro y hy; simp at hy) (fun h1 ns1 sb1 => ?_) hkind)
  dsimp only at ns1 sb1 ⊢
  generalize hH2 : s.heap.push { cls := .type "list", dict := none, data := .seq ([] : List Value).toArray } = H2 at ns1 sb1 ⊢
  have hC : H2.objs.size = s.heap.objs.size + 1 := by rw [← hH2, Heap.size_push]
  have hLlt : @LT.lt Nat _ L s.heap.objs.size := F.ns.lt
  have hab : @LE.le Nat _ h₀.objs.size L := F.above
  have below : ∀ b, b < s.heap.objs.size → b ≠ H2.objs.size ∧ b ≠ s.heap.objs.size := fun b hb => ⟨by rw [hC]; exact Nat.ne_of_lt (Nat.lt_succ_of_lt hb), Nat.ne_of_lt hb⟩
  have old : ∀ b o, s.heap.get? b = some o → h1.get? b = some o := fun b o e => sb1.extBut b o (below b (Heap.lt_size e)).1 (Heap.get?_push_of_some _ (hH2 ▸ Heap.get?_push_of_some _ e))
  have hDC : H2.objs.size ≠ s.heap.objs.size := by rw [hC]; exact Nat.succ_ne_self _
  have hacc : h1.PlainList s.heap.objs.size #[] := ⟨_, sb1.extBut _ _ (Ne.symm hDC) (Heap.get?_push_of_some _ (hH2 ▸ Heap.get?_push_size _ rfl))⟩
  have hst1 : St 0 h1 := W.frame _ _ _ hst fun b _ o e => old b o e
  have loop : ∀ tk0, codeAny (model prog w) A (.compLoop (.ListComp elt [⟨.Name x px, iter, ifs, 0⟩] scope pos) 0 (.ref I) (.ref s.heap.objs.size) (compEnvC scope cl H2.objs.size env)) (RR (.ref s.heap.objs.size) H2.objs.size) { s with heap := h1, toks := tk0 } := by
    intro tk0
    refine compK (s := { s with heap := h1, toks := tk0 }) (news := news) (cenv := compEnvC scope cl H2.objs.size env) W J (lookup_relabel_local hx) (by simp [compEnvC, relabel, hkind]) ?_ hDC (fun hm => absurd (hfp _ hm) (by show ¬ @LT.lt Nat _ H2.objs.size s.heap.objs.size; rw [hC]; omega)) (fun hm => absurd (hfp _ hm) (Nat.lt_irrefl _))
      (Heap.get?_none_of_le (by show h₀.objs.size ≤ H2.objs.size; rw [hC]; omega)) (Heap.get?_none_of_le (by omega)) hwr ?_ hst1 hacc ns1 ⟨F.ns.keeps old, fun b o e => old b o (F.keep b o e), hab⟩ (N.grown old) h0 hsz ?_ ?_
    · intro hm
      rcases List.mem_cons.mp hm with e | hm
      · exact (below L hLlt).1 e
      · rcases List.mem_cons.mp hm with e | hm
        · exact (below L hLlt).2 e
        · exact hL hm
    · intro p hp hm
      have hplt := Heap.lt_size (N p hp).1
      rcases List.mem_cons.mp hm with e | hm
      · exact (below _ hplt).1 e
      · rcases List.mem_cons.mp hm with e | hm
        · exact (below _ hplt).2 e
        · exact hnf p hp hm
    · intro i v ys m2 news1 h2 tk own hi hP hJ hyi hf ho hall hst2 hD2 ns2 hm2 F2 N2
      refine turn _ _ i v ys m2 news1 h2 tk own hi hP hJ hyi hf ho ?_ (hall _ (.head _) (Heap.get?_none_of_le (by show h₀.objs.size ≤ H2.objs.size; rw [hC]; omega))) ?_ ns2 hm2 F2 N2
      rotate_left
      · intro b hb hb0
        suffices h : ∃ o, h2.get? b = some o by obtain ⟨o, e⟩ := h; exact ⟨o, hall b hb hb0 o e⟩
        rcases List.mem_cons.mp hb with rfl | hb
        · obtain ⟨o, _, _, e, _⟩ := ns2; exact ⟨o, e⟩
        · rcases List.mem_cons.mp hb with rfl | hb
          · exact hD2
          · exact hlive _ _ hst2 b hb
      intro b hb hm
      rcases List.mem_cons.mp hm with rfl | hm
      · obtain ⟨_, _, _, e, _⟩ := ns2
        rw [hb] at e; cases e
      · rcases List.mem_cons.mp hm with rfl | hm
        · obtain ⟨o, e⟩ := hD2
          rw [hb] at e; cases e
        · obtain ⟨o, e⟩ := hlive _ _ hst2 b hm
          rw [hb] at e; cases e
    · intro ys m2 news1 h2 tk hJ hsk hf ns2 pl2 F2 N2
      obtain ⟨nn, e⟩ := pl2
      refine done _ _ nn ys m2 news1 h2 tk hJ (fun b hb hw o e => hsk b hb hw o (old b o e)) (fun b hb => ⟨(below b (hfp b hb)).2, (below b (hfp b hb)).1⟩) (fun p hp e => hf p hp (by simp [e])) (fun p hp e => hf p hp (by rw [e]; exact List.mem_cons_self ..)) hDC (fun e => (below L hLlt).1 e.symm) (Heap.get?_none_of_le (by rw [hC]; omega)) ns2 F2 fun p hp => ?_
      rcases List.mem_cons.mp hp with rfl | hp
      · exact ⟨e, Ne.symm (below L hLlt).2, Heap.get?_none_of_le (by show h₀.objs.size ≤ s.heap.objs.size; omega)⟩
      · exact N2 p hp
  exact codeAny_compStart_list (loop _) (W.self 0 _ _ _ hst1 (loop _))

/-- a source of items, its iterator at I made -/
structure Src (prog : Program) (w : World) (A : Around) (h₀ : Heap) (L : Addr) (m : Str → Option Value) (news : List (Addr × Obj)) (ks : List Addr) (n : Nat) (P : Nat → Value → Prop) (I : Addr) (s₂ : Shared) : Prop where
  ex : ∃ fp wr, ∃ St : Nat → Heap → Prop, Walks prog w A I fp wr n P St ∧ St 0 s₂.heap ∧ (∀ b ∈ fp, b < s₂.heap.objs.size) ∧ (∀ i h, St i h → ∀ b ∈ fp, ∃ o, h.get? b = some o) ∧ L ∉ fp ∧ (∀ b ∈ wr, h₀.get? b = none) ∧ (∀ p ∈ news, p.1 ∉ fp) ∧ (∀ b ∈ ks, b ∈ fp ∧ b ∉ wr)
  F : Fr h₀ L s₂.heap m
  N : News h₀ L s₂.heap news

theorem after_C {h h' : Heap} {C : Addr} {news : List (Addr × Obj)} (hs : Heap.SameBut C h h') (hCL : C ≠ L) (hC0 : h₀.get? C = none) (hnC : ∀ p ∈ news, p.1 ≠ C) (F : Fr h₀ L h m) (N : News h₀ L h news) : Fr h₀ L h' m ∧ News h₀ L h' news :=
  ⟨⟨F.ns.at' fun o e => hs.extBut _ o (Ne.symm hCL) e, fun b o e => hs.extBut b o (by rintro rfl; rw [hC0] at e; cases e) (F.keep b o e), F.above⟩, fun p hp => ⟨hs.extBut _ _ (hnC p hp) (N p hp).1, (N p hp).2⟩⟩

/-- a comprehension that is an expression -/
theorem compEval {ks : List Addr} {Q : Value → Shared → Prop} (S : Src prog w A h₀ L m news ks n P I s) (J : Nat → List Value → List (Addr × Obj) → Prop)
    (hcell : ∀ y ∈ scope.names, y.2 ≠ .cell) (hkind : scope.kind = .function) (hx : scope.names.lookup x = some .local) (hsz : n ≤ sizeLine) (h0 : J 0 [] news)
    (turn : CompTurn prog w A h₀ L m env scope cl x ifs elt n P J s)
    (done : ∀ D nn ys news₁ h₂ tk, J n ys news₁ → (∀ b ∈ ks, ∀ o, s.heap.get? b = some o → h₂.get? b = some o) → (∀ b ∈ ks, b ≠ D) → (∀ p ∈ news₁, p.1 ≠ D) → Fr h₀ L h₂ m → News h₀ L h₂ ((D, listOf ys.toArray nn) :: news₁) → Q (.ref D) { s with heap := h₂, toks := tk }) :
    wpAny (model prog w) A (newList []) (fun acc s₃ => wpAny (model prog w) A (newFunctionEnv scope env.globals cl [] env.qual none .none (some env)) (fun cenv s₄ =>
      codeAny (model prog w) A (.compStart (.ListComp elt [⟨.Name x px, iter, ifs, 0⟩] scope pos) 0 (.ref I) acc { cenv with scope := relabel scope env }) (compPost (model prog w) A E none Q acc cenv.locals) s₄) E s₃) E s := by
  obtain ⟨⟨fp, wr, St, W, st, hfp, hlive, hL, hwr, hnf, hks⟩, F, N⟩ := S
  refine compBlock (RR := fun acc C => compPost (model prog w) A E none Q acc C) W J hcell hkind hx hsz st hfp hlive hL hwr hnf F N h0 turn ?_
  intro D C nn ys m2 news1 h2 tk hJ hsk hfD hnD hnC hCD hCL hC0 ns2 F2 N2
  refine ⟨m2, ns2, fun h3 hs3 => ?_⟩
  obtain ⟨F3, N3⟩ := after_C (news := (D, listOf ys.toArray nn) :: news1) hs3 hCL hC0 (fun p hp => by rcases List.mem_cons.mp hp with rfl | hp; exact Ne.symm hCD; exact hnC p hp) F2 N2
  exact done D nn ys news1 h3 tk hJ (fun b hb o e => hs3.extBut b o (hfD b (hks b hb).1).2 (hsk b (hks b hb).1 (hks b hb).2 o e)) (fun b hb => (hfD b (hks b hb).1).1) hnD F3 N3

/-- a comprehension that is stored at once -/
theorem compAsg {ks : List Addr} {y : Str} {py : Pos} {Q : Value → Shared → Prop} (S : Src prog w A h₀ env.locals m news ks n P I s) (J : Nat → List Value → List (Addr × Obj) → Prop)
    (hcell : ∀ y ∈ scope.names, y.2 ≠ .cell) (hkind : scope.kind = .function) (hx : scope.names.lookup x = some .local) (hsz : n ≤ sizeLine) (h0 : J 0 [] news)
    (hy : env.kindOf y = some .local) (hp : (env.scope.kind == .class || (env.scope.kind == .module && env.locals != env.globals)) = false)
    (turn : CompTurn prog w A h₀ env.locals m env scope cl x ifs elt n P J s)
    (done : ∀ D nn ys news₁ h₂ tk, J n ys news₁ → (∀ b ∈ ks, ∀ o, s.heap.get? b = some o → h₂.get? b = some o) → (∀ b ∈ ks, b ≠ D) → (∀ p ∈ news₁, p.1 ≠ D) → Fr h₀ env.locals h₂ (fun z => if z = y then some (.ref D) else m z) → News h₀ env.locals h₂ ((D, listOf ys.toArray nn) :: news₁) → Q .none { s with heap := h₂, toks := tk }) :
    wpAny (model prog w) A (newList []) (fun acc s₃ => wpAny (model prog w) A (newFunctionEnv scope env.globals cl [] env.qual none .none (some env)) (fun cenv s₄ =>
      codeAny (model prog w) A (.compStart (.ListComp elt [⟨.Name x px, iter, ifs, 0⟩] scope pos) 0 (.ref I) acc { cenv with scope := relabel scope env }) (compPost (model prog w) A E (some (assign (.Name y py) env)) Q acc cenv.locals) s₄) E s₃) E s := by
  obtain ⟨⟨fp, wr, St, W, st, hfp, hlive, hL, hwr, hnf, hks⟩, F, N⟩ := S
  refine compBlock (RR := fun acc C => compPost (model prog w) A E (some (assign (.Name y py) env)) Q acc C) W J hcell hkind hx hsz st hfp hlive hL hwr hnf F N h0 turn ?_
  intro D C nn ys m2 news1 h2 tk hJ hsk hfD hnD hnC hCD hCL hC0 ns2 F2 N2
  refine wpAny_assign_Name (wpAny_storeName_local hy F2.ns (fun h3 hn3 hs3 => ?_) hp)
  refine ⟨m2, ns2.sameBut hs3 hCL, fun h4 hs4 => ?_⟩
  have F3 := F2.set hn3 hs3
  have N3 := N2.set hs3
  obtain ⟨F4, N4⟩ := after_C (news := (D, listOf ys.toArray nn) :: news1) hs4 hCL hC0 (fun p hp => by rcases List.mem_cons.mp hp with rfl | hp; exact Ne.symm hCD; exact hnC p hp) F3 N3
  exact done D nn ys news1 h4 _ hJ (fun b hb o e => hs4.extBut b o (hfD b (hks b hb).1).2 (hs3.extBut b o (fun h => hL (h ▸ (hks b hb).1)) (hsk b (hks b hb).1 (hks b hb).2 o e))) (fun b hb => (hfD b (hks b hb).1).1) hnD F4 N4

/-- sources -/
theorem src_range {r : Addr} {a b c : Int} {t u v : Tok} {k : Nat} {Q : Value → Shared → Prop} (hh : A.handled = none) (hr : IsRange s.heap r a b c t u v) (hsmall : Builtin.Range.small a b c = true) (hk : Builtin.Range.rangeSize a b c = (k : Int)) (F : Fr h₀ L s.heap m) (N : News h₀ L s.heap news)
    (h : ∀ I h₂, Src prog w A h₀ L m news [] k (fun i v => ∃ t, v = .int (a + i * c) t) I { s with heap := h₂ } → Q (.ref I) { s with heap := h₂ }) : wpAny (model prog w) A (pyIter (.ref r)) Q E s := by
  refine wpAny_pyIter_range hr hsmall ?_
  have hLlt : @LT.lt Nat _ L s.heap.objs.size := F.ns.lt
  have hab : @LE.le Nat _ h₀.objs.size L := F.above
  have k1 : ∀ b' o, s.heap.get? b' = some o → (s.heap.push { cls := .type "range_iterator", data := .fields #[rawInt a, rawInt (Builtin.Range.rangeSize a b c), rawInt c] }).get? b' = some o := fun _ o e => Heap.get?_push_of_some _ e
  refine h _ _ ⟨⟨_, _, _, Walks.range hh s.heap.objs.size a c k, ?_, ?_, ?_, ?_, ?_, ?_, (fun b hb => nomatch hb)⟩, ⟨F.ns.keeps k1, fun b o e => k1 b o (F.keep b o e), F.above⟩, N.grown k1⟩
  · show IsRangeIter _ _ _ _ _
    have e0 : a + ((0 : Nat) : Int) * c = a := by simp
    have e1 : (k : Int) - ((0 : Nat) : Int) = Builtin.Range.rangeSize a b c := by rw [hk]; simp
    rw [e0, e1]
    exact Heap.get?_push_size _ rfl
  · intro b hb; rw [List.mem_singleton.mp hb]; show _ < (s.heap.push _).objs.size; rw [Heap.size_push]; exact Nat.lt_succ_self _
  · intro i h st b hb; rw [List.mem_singleton.mp hb]; exact ⟨_, st⟩
  · simp; exact Nat.ne_of_lt hLlt
  · intro b hb; rw [List.mem_singleton.mp hb]; exact Heap.get?_none_of_le (by omega)
  · intro p hp; simp; exact Nat.ne_of_lt (Heap.lt_size (N p hp).1)

theorem src_list {l : Addr} {items : Array Value} {Q : Value → Shared → Prop} (hh : A.handled = none) (hl : s.heap.IsList l items) (hlL : l ≠ L) (F : Fr h₀ L s.heap m) (N : News h₀ L s.heap news) (hln : ∀ p ∈ news, p.1 ≠ l)
    (h : ∀ I h₂, (∀ b o, s.heap.get? b = some o → h₂.get? b = some o) → Src prog w A h₀ L m news [l] items.size (fun i v => items[i]? = some v) I { s with heap := h₂ } → Q (.ref I) { s with heap := h₂ }) : wpAny (model prog w) A (pyIter (.ref l)) Q E s := by
  refine wpAny_pyIter_list hl ?_
  have hLlt : @LT.lt Nat _ L s.heap.objs.size := F.ns.lt
  have hab : @LE.le Nat _ h₀.objs.size L := F.above
  have k1 : ∀ b o, s.heap.get? b = some o → (s.heap.push { cls := .type "list_iterator", data := .fields #[.ref l, .int 0 0] }).get? b = some o := fun b o e => Heap.get?_push_of_some _ e
  have hlt : @LT.lt Nat _ l s.heap.objs.size := by obtain ⟨_, e, _⟩ := hl; exact Heap.lt_size e
  refine h _ _ k1 ⟨⟨_, _, _, Walks.list hh s.heap.objs.size l (Nat.ne_of_lt hlt) items, ⟨⟨_, Heap.get?_push_size _ rfl, rfl, rfl⟩, hl.push _⟩, ?_, ?_, ?_, ?_, ?_, ?_⟩, ⟨F.ns.keeps k1, fun b o e => k1 b o (F.keep b o e), F.above⟩, N.grown k1⟩
  · intro b hb
    show b < (s.heap.push _).objs.size
    rw [Heap.size_push]
    rcases List.mem_cons.mp hb with rfl | hb
    · exact Nat.lt_succ_self _
    · rw [List.mem_singleton.mp hb]; exact Nat.lt_succ_of_lt hlt
  · intro i h st b hb
    rcases List.mem_cons.mp hb with rfl | hb
    · obtain ⟨o, e, _⟩ := st.1; exact ⟨o, e⟩
    · rw [List.mem_singleton.mp hb]; obtain ⟨o, e, _⟩ := st.2; exact ⟨o, e⟩
  · have n1 : L ≠ s.heap.objs.size := Nat.ne_of_lt hLlt
    simp [n1, Ne.symm hlL]
  · intro b hb; rw [List.mem_singleton.mp hb]; exact Heap.get?_none_of_le (by omega)
  · intro p hp
    have n1 : p.1 ≠ s.heap.objs.size := Nat.ne_of_lt (Heap.lt_size (N p hp).1)
    simp [n1, hln p hp]
  · intro b hb
    rw [List.mem_singleton.mp hb]
    exact ⟨by simp, by simp; exact Nat.ne_of_lt hlt⟩

theorem src_tup {l : Addr} {items : Array Value} {Q : Value → Shared → Prop} (hh : A.handled = none) (hl : s.heap.IsTuple l items) (hlL : l ≠ L) (F : Fr h₀ L s.heap m) (N : News h₀ L s.heap news) (hln : ∀ p ∈ news, p.1 ≠ l)
    (h : ∀ I h₂, (∀ b o, s.heap.get? b = some o → h₂.get? b = some o) → Src prog w A h₀ L m news [l] items.size (fun i v => items[i]? = some v) I { s with heap := h₂ } → Q (.ref I) { s with heap := h₂ }) : wpAny (model prog w) A (pyIter (.ref l)) Q E s := by
  refine wpAny_pyIter_tuple hl ?_
  have hLlt : @LT.lt Nat _ L s.heap.objs.size := F.ns.lt
  have hab : @LE.le Nat _ h₀.objs.size L := F.above
  have k1 : ∀ b o, s.heap.get? b = some o → (s.heap.push { cls := .type "tuple_iterator", data := .fields #[.ref l, .int 0 0] }).get? b = some o := fun b o e => Heap.get?_push_of_some _ e
  have hlt : @LT.lt Nat _ l s.heap.objs.size := by obtain ⟨_, e, _⟩ := hl; exact Heap.lt_size e
  refine h _ _ k1 ⟨⟨_, _, _, Walks.tuple hh s.heap.objs.size l (Nat.ne_of_lt hlt) items, ⟨⟨_, Heap.get?_push_size _ rfl, rfl, rfl⟩, hl.at (k1 l)⟩, ?_, ?_, ?_, ?_, ?_, ?_⟩, ⟨F.ns.keeps k1, fun b o e => k1 b o (F.keep b o e), F.above⟩, N.grown k1⟩
  · intro b hb
    show b < (s.heap.push _).objs.size
    rw [Heap.size_push]
    rcases List.mem_cons.mp hb with rfl | hb
    · exact Nat.lt_succ_self _
    · rw [List.mem_singleton.mp hb]; exact Nat.lt_succ_of_lt hlt
  · intro i h st b hb
    rcases List.mem_cons.mp hb with rfl | hb
    · obtain ⟨o, e, _⟩ := st.1; exact ⟨o, e⟩
    · rw [List.mem_singleton.mp hb]; obtain ⟨o, e, _⟩ := st.2; exact ⟨o, e⟩
  · have n1 : L ≠ s.heap.objs.size := Nat.ne_of_lt hLlt
    simp [n1, Ne.symm hlL]
  · intro b hb; rw [List.mem_singleton.mp hb]; exact Heap.get?_none_of_le (by omega)
  · intro p hp
    have n1 : p.1 ≠ s.heap.objs.size := Nat.ne_of_lt (Heap.lt_size (N p hp).1)
    simp [n1, hln p hp]
  · intro b hb
    rw [List.mem_singleton.mp hb]
    exact ⟨by simp, by simp; exact Nat.ne_of_lt hlt⟩
end
end Mine
end
section
open PySem PySem.W PyProof.Rows PySem.Calls PySem.Spec
namespace Mine
section
variable {prog : Program} {w : World} {A : Around} {E : Value → Shared → Prop} {s : Shared} {h₀ : Heap} {L : Addr} {m : Str → Option Value} {news : List (Addr × Obj)}
  {n : Nat} {P : Nat → Value → Prop} {J : Nat → List Value → List (Addr × Obj) → Prop} {elt iter : Expr} {x : Str} {px : Pos} {ifs : List Expr} {scope : Scope} {pos : Pos} {env : Env} {cl : List (Str × Addr)}

theorem CompTurn.of (h : ∀ C fp i v ys m₂ news₁ h₂ tk own oC, i < n → P i v → J i ys news₁ → ys.length ≤ i → (∀ p ∈ news₁, p.1 ∉ fp) → (∀ p ∈ own, p.1 ∈ fp) → C ∈ fp → (∀ b, h₂.get? b = none → b ∉ fp) → LCg.NsObj oC m₂ → m₂ x = some v → Fr h₀ L h₂ m → News h₀ L h₂ (news₁ ++ (C, oC) :: own) →
    wpAny (model prog w) A (testsOf ifs (compEnvC scope cl C env)) (fun ok s₃ => if ok = true then wpAny (model prog w) A (eval elt (compEnvC scope cl C env)) (fun y s₄ => CompStep h₀ L m fp own (J (i + 1) (ys ++ [y])) s s₄) (fun _ _ => False) s₃
      else CompStep h₀ L m fp own (J (i + 1) ys) s s₃) (fun _ _ => False) { s with heap := h₂, toks := tk }) : CompTurn prog w A h₀ L m env scope cl x ifs elt n P J s := by
  intro C fp i v ys m₂ news₁ h₂ tk own hi hP hJ hy hf ho hnone hC hown2 ns hm F N
  obtain ⟨oC, es, ep, e, r⟩ := ns
  have hmem : (C, oC) ∈ own := hC oC e
  refine h C fp i v ys m₂ news₁ h₂ tk own oC hi hP hJ hy hf ho (ho _ hmem) hnone ⟨es, ep, r⟩ hm F ?_
  intro p hp
  rcases List.mem_append.mp hp with hp | hp
  · exact N p (List.mem_append_left _ hp)
  · rcases List.mem_cons.mp hp with rfl | hp
    · exact N _ (List.mem_append_right _ hmem)
    · exact N p (List.mem_append_right _ hp)

theorem CompTurn.of2 (h : ∀ C fp i v ys m₂ news₁ h₂ tk own oC, i < n → P i v → J i ys news₁ → ys.length ≤ i → (∀ p ∈ news₁, p.1 ∉ fp) → (∀ p ∈ own, p.1 ∈ fp) → C ∈ fp → (∀ b ∈ fp, h₀.get? b = none → ∃ o, (b, o) ∈ own) → LCg.NsObj oC m₂ → m₂ x = some v → Fr h₀ L h₂ m → News h₀ L h₂ (news₁ ++ (C, oC) :: own) →
    wpAny (model prog w) A (testsOf ifs (compEnvC scope cl C env)) (fun ok s₃ => if ok = true then wpAny (model prog w) A (eval elt (compEnvC scope cl C env)) (fun y s₄ => CompStep h₀ L m fp own (J (i + 1) (ys ++ [y])) s s₄) (fun _ _ => False) s₃
      else CompStep h₀ L m fp own (J (i + 1) ys) s s₃) (fun _ _ => False) { s with heap := h₂, toks := tk }) : CompTurn prog w A h₀ L m env scope cl x ifs elt n P J s := by
  intro C fp i v ys m₂ news₁ h₂ tk own hi hP hJ hy hf ho hnone hC hown2 ns hm F N
  obtain ⟨oC, es, ep, e, r⟩ := ns
  have hmem : (C, oC) ∈ own := hC oC e
  refine h C fp i v ys m₂ news₁ h₂ tk own oC hi hP hJ hy hf ho (ho _ hmem) hown2 ⟨es, ep, r⟩ hm F ?_
  intro p hp
  rcases List.mem_append.mp hp with hp | hp
  · exact N p (List.mem_append_left _ hp)
  · rcases List.mem_cons.mp hp with rfl | hp
    · exact N _ (List.mem_append_right _ hmem)
    · exact N p (List.mem_append_right _ hp)

theorem tests_nil {Q : Bool → Shared → Prop} {cenv : Env} (h : Q true s) : wpAny (model prog w) A (testsOf [] cenv) Q E s := wpAny_pure h
theorem tests_one {Q : Bool → Shared → Prop} {cenv : Env} {c : Expr} (h : wpAny (model prog w) A (isTrue c cenv (eval c cenv)) Q E s) : wpAny (model prog w) A (testsOf [c] cenv) Q E s := by
  show wpAny (model prog w) A (forIn [c] true fun c r => if r = true then do let ok ← isTrue c cenv (eval c cenv); pure (ForInStep.yield ok) else pure (ForInStep.yield r)) Q E s
  rw [List.forIn_cons]
  refine wpAny_bind ?_
  simp only [if_true]
  refine wpAny_bind (wpAny_mono h (fun ok s1 h1 => wpAny_pure ?_) fun _ _ e => e)
  dsimp only
  rw [List.forIn_nil]
  exact wpAny_pure h1

theorem comp_start {Q : Value → Shared → Prop} (hclos : closureFor scope env = pure cl) (hkind : scope.kind = .function)
    (hnames : ∀ y ∈ scope.names, y.2 = .local → scope.names.lookup y.1 = some .local)
    (h : wpAny (model prog w) A (eval iter env) (fun xv s₁ => wpAny (model prog w) A (pyIter xv) (fun it s₂ => wpAny (model prog w) A (newList []) (fun acc s₃ => wpAny (model prog w) A (newFunctionEnv scope env.globals cl [] env.qual none .none (some env)) (fun cenv s₄ =>
      codeAny (model prog w) A (.compStart (.ListComp elt [⟨.Name x px, iter, ifs, 0⟩] scope pos) 0 it acc { cenv with scope := relabel scope env }) (compPost (model prog w) A E none Q acc cenv.locals) s₄) E s₃) E s₂) E s₁) E s)
    (hs : ∀ x, foldedSetIterable iter env x = pure x := by intro _; rfl) :
    wpAny (model prog w) A (eval (.ListComp elt [⟨.Name x px, iter, ifs, 0⟩] scope pos) env) Q E s := by
  rw [eval_ListComp]
  exact wpAny_comprehension_free (use := none) rfl hs hclos hkind hnames h

theorem comp_asg {Q : Flow → Shared → Prop} {y : Str} {py spos : Pos} (hsw : swapsWith (.ListComp elt [⟨.Name x px, iter, ifs, 0⟩] scope pos) (some (.Name y py)) spos.line env = pure true)
    (hclos : closureFor scope env = pure cl) (hkind : scope.kind = .function)
    (hnames : ∀ y ∈ scope.names, y.2 = .local → scope.names.lookup y.1 = some .local)
    (h : wpAny (model prog w) A (eval iter env) (fun xv s₁ => wpAny (model prog w) A (pyIter xv) (fun it s₂ => wpAny (model prog w) A (newList []) (fun acc s₃ => wpAny (model prog w) A (newFunctionEnv scope env.globals cl [] env.qual none .none (some env)) (fun cenv s₄ =>
      codeAny (model prog w) A (.compStart (.ListComp elt [⟨.Name x px, iter, ifs, 0⟩] scope pos) 0 it acc { cenv with scope := relabel scope env }) (compPost (model prog w) A E (some (assign (.Name y py) env)) (fun _ s' => Q .next s') acc cenv.locals) s₄) E s₃) E s₂) E s₁) E s)
    (hs : ∀ x, foldedSetIterable iter env x = pure x := by intro _; rfl) :
    wpAny (model prog w) A (exec (.Assign [.Name y py] (.ListComp elt [⟨.Name x px, iter, ifs, 0⟩] scope pos) spos) env) Q E s := by
  rw [exec_Assign_Name_used _ _ _ _ hsw]
  refine wpAny_bind (wpAny_standAt (wpAny_bind ?_))
  show wpAny _ A (do let _ ← comprehension (.ListComp elt [⟨.Name x px, iter, ifs, 0⟩] scope pos) scope env _ (newList []) false (eval iter env) (some (assign (.Name y py) env))) _ _ s
  exact wpAny_bind (wpAny_mono (wpAny_comprehension_free (use := some (assign (.Name y py) env)) (Q := fun _ s' => Q .next s') rfl hs hclos hkind hnames h) (fun _ s' hq => wpAny_pure (wpAny_pure hq)) fun _ _ e => e)
end
end Mine
end
section
open PySem PySem.W PyProof.Rows PySem.Calls PySem.Spec
namespace Mine
section
variable {prog : Program} {w : World} {A : Around} {E : Value → Shared → Prop} {s : Shared} {env : Env} {h₀ : Heap} {x : Str} {px : Pos} {body orelse : List Stmt} {Q : Flow → Shared → Prop}
  {m : Str → Option Value} {news : List (Addr × Obj)}
theorem for_range {r : Addr} {a b c : Int} {t u v : Tok} {k : Nat} (hh : A.handled = none) (hr : IsRange s.heap r a b c t u v) (hsmall : Builtin.Range.small a b c = true) (hk : Builtin.Range.rangeSize a b c = (k : Int))
    (J : Nat → (Str → Option Value) → List (Addr × Obj) → Prop) (F : Fr h₀ env.locals s.heap m) (N : News h₀ env.locals s.heap news) (h0 : J 0 m news)
    (step : ∀ fp i tv m₁ news₁ h₁ tk₁ own, i < k → J i m₁ news₁ → (∀ p ∈ news₁, p.1 ∉ fp) → (∀ p ∈ own, p.1 ∈ fp) → (∀ b ∈ fp, ∃ o, (b, o) ∈ own) → Fr h₀ env.locals h₁ m₁ → News h₀ env.locals h₁ (news₁ ++ own) →
      wpAny (model prog w) A (assign (.Name x px) env (.int (a + i * c) tv)) (fun _ s₂ => wpAny (model prog w) A (execs body env) (ForStep h₀ env.locals fp own (J (i + 1)) s Q) (fun _ _ => False) s₂) (fun _ _ => False) { s with heap := h₁, toks := tk₁ })
    (done : ∀ m₁ news₁ h₁ tk₁, J k m₁ news₁ → Fr h₀ env.locals h₁ m₁ → News h₀ env.locals h₁ news₁ → wpAny (model prog w) A (execs orelse env) Q (fun _ _ => False) { s with heap := h₁, toks := tk₁ }) :
    wpAny (model prog w) A (pyIter (.ref r)) (fun it s₂ => codeAny (model prog w) A (.forLoop (.Name x px) it body orelse env) (fun r s' => match r with | .ok f => Q f s' | .error e => cameBackBy (model prog w) A env E e s') s₂) E s := by
  have hL : @LT.lt Nat _ env.locals s.heap.objs.size := F.ns.lt
  have hab : @LE.le Nat _ h₀.objs.size env.locals := F.above
  refine wpAny_pyIter_range hr hsmall ?_
  have k1 : ∀ b' o, s.heap.get? b' = some o → (s.heap.push { cls := .type "range_iterator", data := .fields #[rawInt a, rawInt (Builtin.Range.rangeSize a b c), rawInt c] }).get? b' = some o := fun _ o e => Heap.get?_push_of_some _ e
  have n1 : env.locals ≠ s.heap.objs.size := Nat.ne_of_lt hL
  refine forT (s := { s with heap := s.heap.push { cls := .type "range_iterator", data := .fields #[rawInt a, rawInt (Builtin.Range.rangeSize a b c), rawInt c] } }) (KTurns.ofWalks (Walks.range hh s.heap.objs.size a c k) fun i v s Q E st q => wpAny_pure q) J
    (by simp [n1]) ?_ ?_ ?_ ⟨F.ns.keeps k1, fun b o e => k1 b o (F.keep b o e), hab⟩ (N.grown k1) h0 ?_ ?_
  · intro b hb; rw [List.mem_singleton.mp hb]; exact Heap.get?_none_of_le (by omega)
  · intro p hp
    have h1 : p.1 ≠ s.heap.objs.size := Nat.ne_of_lt (Heap.lt_size (N p hp).1)
    simp [h1]
  · show IsRangeIter _ _ _ _ _
    have e0 : a + ((0 : Nat) : Int) * c = a := by simp
    have e1 : (k : Int) - ((0 : Nat) : Int) = Builtin.Range.rangeSize a b c := by rw [hk]; simp
    rw [e0, e1]
    exact Heap.get?_push_size _ rfl
  · intro i v m₁ news₁ h₁ tk₁ own hi hP hst hJ hf hof hog hoa F₁ N₁
    obtain ⟨tv, rfl⟩ := hP
    refine step _ i tv m₁ news₁ h₁ tk₁ own hi hJ hf hof ?_ F₁ N₁
    intro b hm
    rw [List.mem_singleton.mp hm]
    exact ⟨_, hoa _ (.head _) (Heap.get?_none_of_le (by omega)) _ hst⟩
  · intro m₁ news₁ h₁ tk₁ hJ _ F₁ N₁
    exact done m₁ news₁ h₁ tk₁ hJ F₁ N₁
end
end Mine
end
section
open PySem PySem.W PyProof.Rows PySem.Calls PySem.Spec
namespace Mine
section
variable {prog : Program} {w : World} {A : Around} {E : Value → Shared → Prop} {s : Shared} {h₀ : Heap} {L : Addr} {m : Str → Option Value} {news : List (Addr × Obj)}
  {I D X : Addr} {fp wr : List Addr} {n : Nat} {P : Nat → Value → Prop} {St : Nat → Heap → Prop} {elt iter : Expr} {x y : Str} {px py tp : Pos} {tk0 : Nat} {scope : Scope} {pos : Pos} {cenv : Env} {R : Result → Shared → Prop}

theorem compP {xx : _} (W : Walks prog w A I fp wr n P St) (hh : A.handled = none) (J : Nat → List Value → List (Addr × Obj) → Prop)
    (hk : cenv.scope.kind = .function) (hx : cenv.kindOf x = some .cell) (hcx : cenv.cells.lookup x = some X) (hy : cenv.kindOf y = some .local)
    (hL : L ∉ cenv.locals :: D :: X :: fp) (hCD : cenv.locals ≠ D) (hCX : cenv.locals ≠ X) (hDX : D ≠ X) (hCf : cenv.locals ∉ fp) (hDf : D ∉ fp) (hXf : X ∉ fp) (hC0 : h₀.get? cenv.locals = none) (hD0 : h₀.get? D = none) (hX0 : h₀.get? X = none) (hwr : ∀ b ∈ wr, h₀.get? b = none)
    (hnf : ∀ p ∈ news, p.1 ∉ cenv.locals :: D :: X :: fp) (hst : St 0 s.heap) (hacc : s.heap.PlainList D #[]) {m0 : Str → Option Value} (hn : s.heap.Ns cenv.locals m0) {c0 : Option Value} (hX : s.heap.IsCell X c0) (F : Fr h₀ L s.heap m) (N : News h₀ L s.heap news) (h0 : J 0 [] news) (hsz : n ≤ sizeLine)
    (hLI : ∀ i h, St i h → ∃ l j, h.IsListIter I l j)
    (htup : ∀ i v ys nw h, P i v → J i ys nw → Fr h₀ L h m → News h₀ L h nw → ∃ t v₁ v₂, v = .ref t ∧ IsTup h t #[v₁, v₂])
    (turn : ∀ i t v₁ v₂ ys m₂ news₁ h₂ tk own oC oX, i < n → P i (.ref t) → IsTup h₂ t #[v₁, v₂] → J i ys news₁ → ys.length ≤ i → (∀ p ∈ news₁, p.1 ∉ cenv.locals :: D :: X :: fp) → (∀ p ∈ own, p.1 ∈ cenv.locals :: D :: X :: fp) → (∀ b ∈ cenv.locals :: D :: X :: fp, h₀.get? b = none → ∀ o, h₂.get? b = some o → (b, o) ∈ own) → St (i + 1) h₂ → (∃ o, h₂.get? D = some o) →
      LCg.NsObj oC m₂ → m₂ y = some v₂ → oX.data = .cell (some v₁) → Fr h₀ L h₂ m → News h₀ L h₂ (news₁ ++ (cenv.locals, oC) :: (X, oX) :: own) →
      wpAny (model prog w) A (eval elt cenv) (fun z s₄ => CompStep h₀ L m (cenv.locals :: D :: X :: fp) own (J (i + 1) (ys ++ [z])) s s₄) (fun _ _ => False) { s with heap := h₂, toks := tk })
    (done : ∀ ys m₂ news₁ h₂ tk, J n ys news₁ → (∀ b ∈ fp, b ∉ wr → ∀ o, s.heap.get? b = some o → h₂.get? b = some o) → (∀ p ∈ news₁, p.1 ∉ cenv.locals :: D :: X :: fp) → h₂.Ns cenv.locals m₂ → h₂.PlainList D ys.toArray → Fr h₀ L h₂ m → News h₀ L h₂ news₁ → R (.ok .next) { s with heap := h₂, toks := tk }) :
    codeAny (model prog w) A (.compLoop (.ListComp elt [⟨.Tuple [.Name x px, .Name y py] xx tp, iter, [], 0⟩] scope pos) 0 (.ref I) (.ref D) cenv) R s := by
  have hp : (cenv.scope.kind == .class || (cenv.scope.kind == .module && cenv.locals != cenv.globals)) = false := by rw [hk]; rfl
  have hCw : cenv.locals ∉ wr := fun h => hCf (W.sub _ h)
  have hDw : D ∉ wr := fun h => hDf (W.sub _ h)
  have hXw : X ∉ wr := fun h => hXf (W.sub _ h)
  have hLC : L ≠ cenv.locals := fun e => hL (by simp [e])
  have hLD : L ≠ D := fun e => hL (by simp [e])
  have hLX : L ≠ X := fun e => hL (by simp [e])
  have hLf : L ∉ fp := fun e => hL (by simp [e])
  have carry : ∀ h1 h2 news1, Fr h₀ L h1 m → News h₀ L h1 news1 → (∀ p ∈ news1, p.1 ∉ cenv.locals :: D :: X :: fp) → (∀ b o, b ≠ cenv.locals → b ≠ D → b ≠ X → b ∉ wr → h1.get? b = some o → h2.get? b = some o) → Fr h₀ L h2 m ∧ News h₀ L h2 news1 := fun h1 h2 news1 F1 N1 hf hk =>
    ⟨⟨F1.ns.at' fun o e => hk _ o hLC hLD hLX (fun h => hLf (W.sub _ h)) e, fun b o e => hk b o (by rintro rfl; rw [hC0] at e; cases e) (by rintro rfl; rw [hD0] at e; cases e) (by rintro rfl; rw [hX0] at e; cases e) (fun hb => by rw [hwr b hb] at e; cases e) (F1.keep b o e), F1.above⟩,
      fun p hp => ⟨hk _ _ (fun e => hf p hp (by simp [e])) (fun e => hf p hp (by simp [e])) (fun e => hf p hp (by simp [e])) (fun hb => hf p hp (by simp [W.sub _ hb])) (N1 p hp).1, (N1 p hp).2⟩⟩
  refine LCp.codeAny_compLoop_pair (fun k s' => ∃ h' tk m' ys news' i c', s' = { s with heap := h', toks := tk } ∧ St i h' ∧ h'.PlainList D ys.toArray ∧ h'.Ns cenv.locals m' ∧ h'.IsCell X c' ∧ Fr h₀ L h' m ∧ News h₀ L h' news' ∧ (∀ p ∈ news', p.1 ∉ cenv.locals :: D :: X :: fp) ∧ J i ys news' ∧ (∀ b ∈ fp, b ∉ wr → ∀ o, s.heap.get? b = some o → h'.get? b = some o) ∧ ys.length ≤ i ∧ i ≤ n ∧ k = n + 1 - i) ?_ (n + 1)
    ⟨s.heap, s.toks, m0, [], news, 0, c0, rfl, hst, hacc, hn, hX, F, N, hnf, h0, (fun _ _ _ _ e => e), Nat.le_refl _, Nat.zero_le _, rfl⟩
  rintro k s' ⟨h1, tk1, m1, ys, news1, i, c1, rfl, st1, pl1, ns1, cl1, F1, N1, hf1, hJ, hsk, hyi, hi, rfl⟩
  rcases Nat.lt_or_ge i n with hlt | hge
  · refine W.item i _ _ _ hlt st1 fun v h2 tk2 hP st2 hk2 => ?_
    obtain ⟨F2, N2⟩ := carry h1 h2 news1 F1 N1 hf1 fun b o _ _ _ n3 e => hk2 b o n3 e
    obtain ⟨t, v1, v2, rfl, ht⟩ := htup i v ys news1 h2 hP hJ F2 N2
    obtain ⟨lI, jI, hLi⟩ := hLI _ _ st2
    refine wpAny_letOwnedTupleGo_listiter hLi ?_
    refine assign_Tuple_tuple hh ht rfl rfl fun h5 he => ?_
    have he' : ∀ b o, h2.get? b = some o → h5.get? b = some o := fun b o e => he b o (Nat.ne_of_lt (Heap.lt_size e)) e
    obtain ⟨oX1, eX1, dX1⟩ := cl1
    refine assignInOrder_cons (wpAny_assign_Name (wpAny_storeName_cell hk hx hcx ⟨oX1, he' _ _ (hk2 _ _ hXw eX1), dX1⟩ (fun h6 hc6 hs6 => ?_)))
    have ns6 : h6.Ns cenv.locals m1 := ns1.at' fun o e => hs6.extBut _ o hCX (he' _ o (hk2 _ o hCw e))
    refine assignInOrder_cons (wpAny_assign_Name (wpAny_storeName_local hy ns6 (fun h3 hn3 hs3 => ?_) hp))
    refine assignInOrder_nil ?_
    have k23 : ∀ b o, b ≠ cenv.locals → b ≠ X → h2.get? b = some o → h3.get? b = some o := fun b o n1 n2 e => hs3.extBut b o n1 (hs6.extBut b o n2 (he' b o e))
    have k13 : ∀ b o, b ≠ cenv.locals → b ≠ X → b ∉ wr → h1.get? b = some o → h3.get? b = some o := fun b o n1 n2 n3 e => k23 b o n1 n2 (hk2 b o n3 e)
    have st3 : St (i + 1) h3 := W.frame _ _ _ st2 fun b hb o e => k23 b o (fun h => hCf (h ▸ hb)) (fun h => hXf (h ▸ hb)) e
    have pl3 : h3.PlainList D ys.toArray := pl1.at fun o e => k13 D o (Ne.symm hCD) hDX hDw e
    obtain ⟨oX, eX6, dX⟩ := hc6
    have eX : h3.get? X = some oX := hs3.extBut _ _ (Ne.symm hCX) eX6
    obtain ⟨oC, eC, hoC⟩ := LCg.ns_obj hn3
    obtain ⟨F3, N3⟩ := carry h1 h3 news1 F1 N1 hf1 fun b o n1 _ n2 n3 e => k13 b o n1 n2 n3 e
    have No : News h₀ L h3 (ownOf h₀ (cenv.locals :: D :: X :: fp) h3) := news_ownOf hL
    have after : ∀ h4 news4, Fr h₀ L h4 m → News h₀ L h4 (news4 ++ ownOf h₀ (cenv.locals :: D :: X :: fp) h3) → ∀ b ∈ cenv.locals :: D :: X :: fp, ∀ o, h3.get? b = some o → h4.get? b = some o := fun h4 news4 F4 N4 b hb o e => by
      cases hn0 : h₀.get? b with
      | some o0 =>
        have q := F3.keep b o0 hn0
        rw [e] at q
        cases q
        exact F4.keep b o hn0
      | none => exact (N4 _ (List.mem_append_right _ (mem_ownOf hb hn0 e))).1
    have ht3 : IsTup h3 t #[v1, v2] := by
      obtain ⟨ot, eo, hc, nt, hd⟩ := ht
      refine ⟨ot, k23 t ot ?_ ?_ eo, hc, nt, hd⟩
      · rintro rfl
        obtain ⟨oC1, es, ep, eC1, dC1, _⟩ := ns1
        rw [hk2 _ _ hCw eC1] at eo
        cases eo
        rw [hd] at dC1; cases dC1
      · rintro rfl
        rw [hk2 _ _ hXw eX1] at eo
        cases eo
        rw [hd] at dX1; cases dX1
    refine wpAny_mono (turn i t v1 v2 ys _ news1 h3 _ (ownOf h₀ (cenv.locals :: D :: X :: fp) h3) oC oX hlt hP ht3 hJ hyi hf1 ownOf_sub (fun b hb hn0 o e => mem_ownOf hb hn0 e) st3 (let ⟨nn, e⟩ := pl3; ⟨_, e⟩) hoC (by simp) dX F3 ?_) (fun z s5 h5 => ?_) fun _ _ e => e.elim
    · intro p hp
      rcases List.mem_append.mp hp with hp | hp
      · exact N3 p hp
      · rcases List.mem_cons.mp hp with rfl | hp
        · exact ⟨eC, Ne.symm hLC, hC0⟩
        · rcases List.mem_cons.mp hp with rfl | hp
          · exact ⟨eX, Ne.symm hLX, hX0⟩
          · exact No p hp
    · obtain ⟨h5, tk5, news5, rfl, F5, N5, hf5, hJ5⟩ := h5
      have kp := after _ _ F5 N5
      have pl5 : h5.PlainList D ys.toArray := pl3.at fun o e => kp D (by simp) o e
      refine wpAny_list_append_plain (hsz := by rw [List.size_toArray]; omega) pl5 fun h6' pl6 hs6' => ?_
      have N5' : News h₀ L h5 news5 := fun p hp => N5 p (List.mem_append_left _ hp)
      obtain ⟨F6, N6⟩ := carry h5 h6' news5 F5 N5' hf5 fun b o _ n2 _ _ e => hs6'.extBut b o n2 e
      refine ⟨n + 1 - (i + 1), by omega, h6', tk5, _, ys ++ [z], news5, i + 1, some v1, rfl, ?_, by simpa using pl6, (hn3.at' fun o e => kp _ (by simp) o e).at' fun o e => hs6'.extBut _ o hCD e, ⟨oX, hs6'.extBut _ _ (Ne.symm hDX) (kp X (by simp) _ eX), dX⟩, F6, N6, hf5, hJ5, (fun b hb hw o e => hs6'.extBut b o (fun h => hDf (h ▸ hb)) (kp b (by simp [hb]) o (k13 b o (fun h => hCf (h ▸ hb)) (fun h => hXf (h ▸ hb)) hw (hsk b hb hw o e)))), by rw [List.length_append, List.length_singleton]; omega, hlt, rfl⟩
      exact W.frame _ _ _ st3 fun b hb o e => hs6'.extBut b o (fun h => hDf (h ▸ hb)) (kp b (by simp [hb]) o e)
  · have hin : i = n := by omega
    subst hin
    refine W.done _ _ _ st1 fun h2 tk2 hk2 => ?_
    obtain ⟨F2, N2⟩ := carry h1 h2 news1 F1 N1 hf1 fun b o _ _ _ n3 e => hk2 b o n3 e
    exact done ys m1 news1 h2 tk2 hJ (fun b hb hw o e => hk2 b o hw (hsk b hb hw o e)) hf1 (ns1.at' fun o e => hk2 _ o hCw e) (pl1.at fun o e => hk2 _ o hDw e) F2 N2

theorem comp_start2 {xx : _} {env : Env} {cl : List (Str × Addr)} {Q : Value → Shared → Prop} (hclos : closureFor scope env = pure cl) (hkind : scope.kind = .function)
    (hnames : ∀ y ∈ scope.names, y.2 = .local → scope.names.lookup y.1 = some .local)
    (h : wpAny (model prog w) A (eval iter env) (fun xv s₁ => wpAny (model prog w) A (pyIter xv) (fun it s₂ => wpAny (model prog w) A (newList []) (fun acc s₃ => wpAny (model prog w) A (newFunctionEnv scope env.globals cl [] env.qual none .none (some env)) (fun cenv s₄ =>
      codeAny (model prog w) A (.compStart (.ListComp elt [⟨.Tuple [.Name x px, .Name y py] xx tp, iter, [], 0⟩] scope pos) 0 it acc { cenv with scope := relabel scope env }) (compPost (model prog w) A E none Q acc cenv.locals) s₄) E s₃) E s₂) E s₁) E s)
    (hs : ∀ x, foldedSetIterable iter env x = pure x := by intro _; rfl) :
    wpAny (model prog w) A (eval (.ListComp elt [⟨.Tuple [.Name x px, .Name y py] xx tp, iter, [], 0⟩] scope pos) env) Q E s := by
  rw [eval_ListComp]
  exact wpAny_comprehension_free (use := none) rfl hs hclos hkind hnames h

theorem newEnv_cell {scope : Scope} {env : Env} {cl : List (Str × Addr)} {x : Str} {Q : Env → Shared → Prop} (hcs : ∀ n, cellsFrom n scope.names cl = (x, n) :: cl) (hpc : ∀ h, pushCells h scope.names = h.push { cls := .type "cell", data := .cell none })
    (h : Q (newEnv scope s.heap.objs.size env.globals ((x, s.heap.objs.size + 1) :: cl) env.qual none .none (some env) builtinsNs) { s with heap := (s.heap.push { cls := .type "dict", data := .dict #[] }).push { cls := .type "cell", data := .cell none } }) :
    wpAny (model prog w) A (newFunctionEnv scope env.globals cl [] env.qual none .none (some env)) Q E s := by
  simp only [newFunctionEnv, Option.isSome_some, if_true]
  refine wpAny_bind (wpAny_alloc ?_)
  refine wpAny_bind (wpAny_layCells _ (fun name kind cells => by cases hkc : kind == NameKind.cell <;> simp [hkc]) _ _ _ _ ?_)
  rw [hcs, hpc]
  dsimp only
  rw [List.forIn_nil]
  refine wpAny_bind (wpAny_pure (wpAny_pure ?_))
  rw [show (s.heap.push { cls := .type "dict", data := .dict #[] }).objs.size = s.heap.objs.size + 1 from Heap.size_push _ _]
  exact h

theorem compPair {xx : _} {l : Addr} {items : Array Value} {env : Env} {cl : List (Str × Addr)} {Q : Value → Shared → Prop} (hh : A.handled = none) (hl : s.heap.IsList l items) (hlL : l ≠ L) (F : Fr h₀ L s.heap m) (N : News h₀ L s.heap news) (hln : ∀ p ∈ news, p.1 ≠ l) (J : Nat → List Value → List (Addr × Obj) → Prop)
    (hcs : ∀ n, cellsFrom n scope.names cl = (x, n) :: cl) (hpc : ∀ h, pushCells h scope.names = h.push { cls := .type "cell", data := .cell none })
    (hkind : scope.kind = .function) (hx : (relabel scope env).names.lookup x = some .cell) (hy : scope.names.lookup y = some .local) (hsz : items.size ≤ sizeLine) (h0 : J 0 [] news)
    (htup : ∀ i v ys nw h, items[i]? = some v → J i ys nw → Fr h₀ L h m → News h₀ L h nw → ∃ t v₁ v₂, v = .ref t ∧ IsTup h t #[v₁, v₂])
    (turn : ∀ C X fp i t v₁ v₂ ys m₂ news₁ h₂ tk own oC oX, i < items.size → items[i]? = some (.ref t) → IsTup h₂ t #[v₁, v₂] → J i ys news₁ → ys.length ≤ i → (∀ p ∈ news₁, p.1 ∉ fp) → (∀ p ∈ own, p.1 ∈ fp) → (∀ b ∈ fp, h₀.get? b = none → ∃ o, (b, o) ∈ own) →
      LCg.NsObj oC m₂ → m₂ y = some v₂ → oX.data = .cell (some v₁) → Fr h₀ L h₂ m → News h₀ L h₂ (news₁ ++ (C, oC) :: (X, oX) :: own) → C ∈ fp → X ∈ fp →
      wpAny (model prog w) A (eval elt (compEnvC scope ((x, X) :: cl) C env)) (fun z s₄ => CompStep h₀ L m fp own (J (i + 1) (ys ++ [z])) s s₄) (fun _ _ => False) { s with heap := h₂, toks := tk })
    (done : ∀ D nn ys news₁ h₂ tk, J items.size ys news₁ → (∀ o, s.heap.get? l = some o → h₂.get? l = some o) → l ≠ D → (∀ p ∈ news₁, p.1 ≠ D) → Fr h₀ L h₂ m → News h₀ L h₂ ((D, listOf ys.toArray nn) :: news₁) → Q (.ref D) { s with heap := h₂, toks := tk }) :
    wpAny (model prog w) A (pyIter (.ref l)) (fun it s₂ => wpAny (model prog w) A (newList []) (fun acc s₃ => wpAny (model prog w) A (newFunctionEnv scope env.globals cl [] env.qual none .none (some env)) (fun cenv s₄ =>
      codeAny (model prog w) A (.compStart (.ListComp elt [⟨.Tuple [.Name x px, .Name y py] xx tp, iter, [], 0⟩] scope pos) 0 it acc { cenv with scope := relabel scope env }) (compPost (model prog w) A E none Q acc cenv.locals) s₄) E s₃) E s₂) E s := by
  refine wpAny_pyIter_list hl ?_
  have hLlt : @LT.lt Nat _ L s.heap.objs.size := F.ns.lt
  have hab : @LE.le Nat _ h₀.objs.size L := F.above
  have hllt : @LT.lt Nat _ l s.heap.objs.size := by obtain ⟨_, e, _⟩ := hl; exact Heap.lt_size e
  generalize hH1 : s.heap.push { cls := .type "list_iterator", data := .fields #[.ref l, .int 0 0] } = H1
  have z1 : H1.objs.size = s.heap.objs.size + 1 := by rw [← hH1, Heap.size_push]
  refine wpAny_newObj_type ?_
  dsimp only
  generalize hH2 : H1.push { cls := .type "list", dict := none, data := .seq ([] : List Value).toArray } = H2
  have z2 : H2.objs.size = s.heap.objs.size + 2 := by rw [← hH2, Heap.size_push, z1]
  refine newEnv_cell hcs hpc ?_
  dsimp only
  generalize hH3 : H2.push { cls := .type "dict", data := .dict #[] } = H3
  have z3 : H3.objs.size = s.heap.objs.size + 3 := by rw [← hH3, Heap.size_push, z2]
  generalize hH4 : H3.push { cls := .type "cell", data := .cell none } = H4
  have e34 : ∀ b o, H3.get? b = some o → H4.get? b = some o := fun b o e => hH4 ▸ Heap.get?_push_of_some _ e
  have e24 : ∀ b o, H2.get? b = some o → H4.get? b = some o := fun b o e => e34 b o (hH3 ▸ Heap.get?_push_of_some _ e)
  have e14 : ∀ b o, H1.get? b = some o → H4.get? b = some o := fun b o e => e24 b o (hH2 ▸ Heap.get?_push_of_some _ e)
  have e04 : ∀ b o, s.heap.get? b = some o → H4.get? b = some o := fun b o e => e14 b o (hH1 ▸ Heap.get?_push_of_some _ e)
  have old0 : ∀ a, @LE.le Nat _ s.heap.objs.size a → h₀.get? a = none := fun a ha => Heap.get?_none_of_le (by omega)
  have st1 : H4.IsListIter s.heap.objs.size l 0 ∧ H4.IsList l items := ⟨⟨_, e14 _ _ (hH1 ▸ Heap.get?_push_size _ rfl), rfl, rfl⟩, hl.at fun o e => e04 _ o e⟩
  rw [z1]
  have nsC : H4.Ns H2.objs.size (fun _ => none) := by
    have : H3.Ns H2.objs.size (fun _ => none) := hH3 ▸ Heap.Ns.new ..
    exact this.at' fun o e => e34 _ o e
  have cX : H4.IsCell (H2.objs.size + 1) none := ⟨_, by rw [← hH4, show H2.objs.size + 1 = H3.objs.size by omega]; exact Heap.get?_push_size _ rfl, rfl⟩
  have plD : H4.PlainList (s.heap.objs.size + 1) #[] := ⟨_, e24 _ _ (by rw [← hH2, ← z1]; exact Heap.get?_push_size _ rfl)⟩
  have F4 : Fr h₀ L H4 m := ⟨F.ns.keeps e04, fun b o e => e04 b o (F.keep b o e), F.above⟩
  have N4 := N.grown e04
  have W := Walks.list (prog := prog) (w := w) hh s.heap.objs.size l (Nat.ne_of_lt hllt) items
  have loop : ∀ tk0, codeAny (model prog w) A (.compLoop (.ListComp elt [⟨.Tuple [.Name x px, .Name y py] xx tp, iter, [], 0⟩] scope pos) 0 (.ref s.heap.objs.size) (.ref (s.heap.objs.size + 1)) (compEnvC scope ((x, H2.objs.size + 1) :: cl) H2.objs.size env)) (compPost (model prog w) A E none Q (.ref (s.heap.objs.size + 1)) H2.objs.size) { s with heap := H4, toks := tk0 } := by
    intro tk0
    have nef : ∀ a, @LT.lt Nat _ s.heap.objs.size a → a ∉ [s.heap.objs.size, l] := fun a ha hm => by
      rcases List.mem_cons.mp hm with rfl | hm
      · exact Nat.lt_irrefl _ ha
      · rw [List.mem_singleton.mp hm] at ha; omega
    refine compP (s := { s with heap := H4, toks := tk0 }) (cenv := compEnvC scope ((x, H2.objs.size + 1) :: cl) H2.objs.size env) (X := H2.objs.size + 1) W hh J (by simp [compEnvC, relabel, hkind]) hx (by simp [compEnvC]) (lookup_relabel_local hy) ?_ ?_ ?_ ?_ ?_ ?_ ?_ ?_ ?_ ?_ ?_ ?_ st1 plD nsC cX F4 N4 h0 hsz (fun i h st => ⟨_, _, st.1⟩) htup ?_ ?_
    · show L ∉ H2.objs.size :: (s.heap.objs.size + 1) :: (H2.objs.size + 1) :: [s.heap.objs.size, l]
      intro hm
      simp only [List.mem_cons, List.not_mem_nil, or_false] at hm
      rcases hm with h | h | h | h | h
      · rw [h] at hLlt; omega
      · rw [h] at hLlt; omega
      · rw [h] at hLlt; omega
      · rw [h] at hLlt; exact Nat.lt_irrefl _ hLlt
      · exact hlL h.symm
    · show H2.objs.size ≠ s.heap.objs.size + 1; omega
    · show H2.objs.size ≠ H2.objs.size + 1; omega
    · show s.heap.objs.size + 1 ≠ H2.objs.size + 1; omega
    · exact nef _ (by show s.heap.objs.size < H2.objs.size; omega)
    · exact nef _ (by show s.heap.objs.size < s.heap.objs.size + 1; omega)
    · exact nef _ (by show s.heap.objs.size < H2.objs.size + 1; omega)
    · exact old0 _ (by show s.heap.objs.size ≤ H2.objs.size; omega)
    · exact old0 _ (by show s.heap.objs.size ≤ s.heap.objs.size + 1; omega)
    · exact old0 _ (by show s.heap.objs.size ≤ H2.objs.size + 1; omega)
    · intro b hb; rw [List.mem_singleton.mp hb]; exact old0 _ (Nat.le_refl _)
    · intro p hp hm
      have hplt : @LT.lt Nat _ p.1 s.heap.objs.size := Heap.lt_size (N p hp).1
      have hm : p.1 ∈ H2.objs.size :: (s.heap.objs.size + 1) :: (H2.objs.size + 1) :: [s.heap.objs.size, l] := hm
      simp only [List.mem_cons, List.not_mem_nil, or_false] at hm
      rcases hm with h | h | h | h | h
      · rw [h] at hplt; omega
      · rw [h] at hplt; omega
      · rw [h] at hplt; omega
      · rw [h] at hplt; exact Nat.lt_irrefl _ hplt
      · exact hln p hp h
    · intro i t v1 v2 ys m2 news1 h2 tk own oC oX hi hP ht hJ hyl hf ho hall hst hD hns hmy hoX F2 N2
      refine turn _ _ _ i t v1 v2 ys m2 news1 h2 tk own oC oX hi hP ht hJ hyl hf ho ?_ hns hmy hoX F2 N2 (.head _) (.tail _ (.tail _ (.head _)))
      intro b hb hb0
      suffices h : ∃ o, h2.get? b = some o by obtain ⟨o, e⟩ := h; exact ⟨o, hall b hb hb0 o e⟩
      rcases List.mem_cons.mp hb with rfl | hb
      · exact ⟨_, (N2 (_, oC) (List.mem_append_right _ (.head _))).1⟩
      · rcases List.mem_cons.mp hb with rfl | hb
        · exact hD
        · rcases List.mem_cons.mp hb with rfl | hb
          · exact ⟨_, (N2 (_, oX) (List.mem_append_right _ (.tail _ (.head _)))).1⟩
          · rcases List.mem_cons.mp hb with rfl | hb
            · obtain ⟨o, e, _⟩ := hst.1; exact ⟨o, e⟩
            · rw [List.mem_singleton.mp hb]; obtain ⟨o, e, _⟩ := hst.2; exact ⟨o, e⟩
    · intro ys m2 news1 h2 tk hJ hsk hf ns2 pl2 F2 N2
      obtain ⟨nn, e⟩ := pl2
      refine ⟨m2, ns2, fun h3 hs3 => ?_⟩
      have hCL : H2.objs.size ≠ L := fun h => by rw [← h] at hLlt; omega
      have hC0 : h₀.get? H2.objs.size = none := old0 _ (by show s.heap.objs.size ≤ H2.objs.size; omega)
      have N2' : News h₀ L h2 ((s.heap.objs.size + 1, listOf ys.toArray nn) :: news1) := fun p hp => by
        rcases List.mem_cons.mp hp with rfl | hp
        · exact ⟨e, (fun h => by have h : s.heap.objs.size + 1 = L := h; rw [← h] at hLlt; omega), old0 _ (by show s.heap.objs.size ≤ s.heap.objs.size + 1; omega)⟩
        · exact N2 p hp
      obtain ⟨F3, N3⟩ := after_C (news := (s.heap.objs.size + 1, listOf ys.toArray nn) :: news1) hs3 hCL hC0 (fun p hp => by
        rcases List.mem_cons.mp hp with rfl | hp
        · show s.heap.objs.size + 1 ≠ H2.objs.size; omega
        · exact fun h => hf p hp (by rw [h]; exact .head _)) F2 N2'
      refine done _ nn ys news1 h3 tk hJ ?_ ?_ (fun p hp h => hf p hp (by rw [h]; exact .tail _ (.head _))) F3 N3
      · intro o eo
        refine hs3.extBut _ o (fun h => ?_) (hsk l (.tail _ (.head _)) ?_ o (e04 _ _ eo))
        · have h : l = H2.objs.size := h; rw [h] at hllt; omega
        · intro h; rw [List.mem_singleton.mp h] at hllt; exact Nat.lt_irrefl _ hllt
      · intro h; rw [h] at hllt; omega
  exact codeAny_compStart_list (loop _) (W.self 0 _ _ _ st1 (loop _))
end
end Mine
end
section
open PySem PySem.W PyProof.Rows PySem.Calls PySem.Spec
namespace Mine

theorem enterC {w : World} {dp un : Nat} {fr : Option (List Env)} {gd : Option (List Code)} {s : Shared} {f : Addr} {args : List Value} {Q E : Value → Shared → Prop} (mu : List Addr) (news : List (Addr × Obj)) (bm : List (Str × Value))
    {name qual : Str} {params : Arguments} {body : List Stmt} {scope : Scope} {dV kV doc pm cdv ct oc : Value} {an od : Option Addr} {osl : Array (Option Value)}
    (g : Gr w (hideAll s.heap mu)) (hn : ∀ p ∈ news, p.1 ∈ mu ∧ s.heap.get? p.1 = some p.2)
    (ho : (hd.heap_39 w.params).lookup f = some ⟨oc, od, .func (fnOf name qual params body scope dV kV doc pm an cdv ct), osl⟩)
    (hcd : codeIn (hd.heap_39 w.params) cdv qual = true) (hroom : dp < recursionLimit)
    (hbind : bindArgs (fnOf name qual params body scope dV kV doc pm an cdv ct) ⟨args, []⟩ = pure bm) (hkind : (bm.all fun y => scope.names.lookup y.1 == some .local || scope.names.lookup y.1 == some .cell) = true)
    (hnd : ((cellsFrom 0 scope.names []).map (·.1)).Nodup)
    (hco : scope.isCoroutine = false) (hgen : scope.isGenerator = false) (hk : scope.kind = .function)
    (h : ∀ g L h₁ tk cells mean mg mb, Ext mu s.heap g → (∀ b o, g.get? b = some o → s.heap.get? b = some o) → s.heap.objs.size ≤ L → (hd.heap_39 w.params).In g → Top hd.view_39 loo mean mg mb g → Fr g L h₁ (bindL (envOfC qual scope L f cdv).kindOf bm fun _ => none) → News g L h₁ (cells ++ news) →
      CellsAre (bindC (envOfC qual scope L f cdv).kindOf bm fun _ => none) (cellsFrom (L + 1) scope.names []) cells →
      wpAny (model PySem.Challenge.rw_nq0081_01.row.prog w) ((Around.mk none dp fr gd un).deeper (envOfC qual scope L f cdv)) (execs body (envOfC qual scope L f cdv))
        (fun fl s' => Q (match fl with | .ret v => v | _ => .none) s') (fun _ _ => False) { s with heap := h₁, toks := tk }) :
    wpAny (model PySem.Challenge.rw_nq0081_01.row.prog w) (Around.mk none dp fr gd un) (call (.ref f) args) Q E s := by
  obtain ⟨X, mean, mg, mb, T⟩ := g
  have hk' : ∀ b o, (hideAll s.heap mu).get? b = some o → s.heap.get? b = some o := fun b o e => of_hideAll _ e
  have X' := X.keeps hk'
  refine wpAny_call ?_
  have hbind' : BindsTo s (fnX name qual params body scope [] dV kV doc pm an cdv ct) ⟨args, []⟩ bm := BindsTo.of_eq hbind
  refine codeAny_call_function (fd := fnX name qual params body scope [] dV kV doc pm an cdv ct) hroom (X' _ _ ho) rfl hco hgen rfl (codeRec_of X' hcd) (hbind' _ _ _ _ ?_)
  refine wpAny_newFunctionEnv_cells hk (kindsX hkind _) fun env' he s' x => ?_
  subst he
  refine ⟨(T.nolimit.keeps hk').keeps x.toInCall.keep, codeAny_func ?_⟩
  obtain ⟨h₁, tk, rfl, _⟩ := x.done
  have hk₁ := x.toInCall.keep
  obtain ⟨cells, NC, Y⟩ := Cl.news (h₀ := s.heap) (Nat.le_refl _) fun n c hm => ⟨x.cell n c (lookup_of_mem_nodup (cellsFrom_names scope.names 0 (s.heap.objs.size + 1) [] [] rfl ▸ hnd) hm), x.above n c hm⟩
  refine wpAny_mono (h (hideAll s.heap mu) s.heap.objs.size h₁ tk cells mean mg mb (fun b o n e => hideAll_get _ e n) hk' (Nat.le_refl _) X T ⟨x.toInCall.ns, fun b o e => hk₁ b o (of_hideAll _ e), Nat.le_of_eq (hideAll_size _ _)⟩ (fun p hp => ?_) Y) (fun fl s' hl => hl) fun _ _ y => y.elim
  rcases List.mem_append.mp hp with hp | hp
  · refine ⟨(NC p hp).1, (NC p hp).2.1, ?_⟩
    cases q : (hideAll s.heap mu).get? p.1 with
    | none => rfl
    | some o => have := of_hideAll _ q; rw [(NC p hp).2.2] at this; cases this
  · exact ⟨hk₁ _ _ (hn p hp).2, Nat.ne_of_lt (Heap.lt_size (hn p hp).2), hideAll_none _ (hn p hp).1⟩
end Mine
end
section
theorem Mine.offW1 : True := by
  w_top off
  trivial
open PySem PySem.W PyProof.Rows PySem.Calls PySem.Spec
namespace Mine
theorem ap_acc : ∀ (n : Nat) (acc : List UInt8), apLoop n acc = apLoop n [] ++ acc := by
  intro n
  induction n using Nat.strongRecOn with
  | _ n ih =>
    intro acc
    by_cases h : n = 0
    · subst h; rw [apLoop, dif_pos rfl, apLoop, dif_pos rfl]; rfl
    · have e1 : apLoop n acc = apLoop (n / 16) (UInt8.ofNat (65 + n % 16) :: acc) := by conv => lhs; rw [apLoop]; rw [dif_neg h]
      have e2 : apLoop n [] = apLoop (n / 16) [UInt8.ofNat (65 + n % 16)] := by conv => lhs; rw [apLoop]; rw [dif_neg h]
      rw [e1, e2, ih (n / 16) (by omega), ih (n / 16) (by omega) [_]]
      simp
theorem ap_digits : ∀ (n q : Nat), (∀ j, j < q → 16 ^ j ≤ n) → n < 16 ^ q → apLoop n [] = (List.range q).map fun j => UInt8.ofNat (65 + n / 16 ^ (q - 1 - j) % 16) := by
  intro n q
  induction q generalizing n with
  | zero => intro _ h; have : n = 0 := by simp at h; exact h
            subst this; rw [apLoop, dif_pos rfl]; rfl
  | succ q ih =>
    intro h1 h2
    have hn : n ≠ 0 := by have := h1 0 (Nat.succ_pos _); simp at this; omega
    rw [apLoop, dif_neg hn, ap_acc, ih (n / 16)]
    · rw [List.range_succ, List.map_append, List.map_singleton]
      congr 1
      · apply List.map_congr_left
        intro j hj
        have hj := List.mem_range.mp hj
        rw [Nat.div_div_eq_div_mul, show q + 1 - 1 - j = (q - 1 - j) + 1 by omega, Nat.pow_succ, Nat.mul_comm 16]
      · simp
    · intro j hj
      have := h1 (j + 1) (by omega)
      rw [Nat.pow_succ] at this
      exact (Nat.le_div_iff_mul_le (by decide)).mpr this
    · rw [Nat.pow_succ] at h2
      exact (Nat.div_lt_iff_lt_mul (by decide)).mpr h2

local macro_rules | `(tactic| walk_at "call ref") => `(tactic| refine Mine.hold ?_)
local macro_rules | `(tactic| walk_at "exec While Compare cons nil") => `(tactic| refine Mine.hold ?_)
local macro_rules | `(tactic| walk_at "eval ListComp") => `(tactic| refine Mine.hold ?_)
local macro_rules | `(tactic| walk_at "pyIter ref") => `(tactic| refine Mine.hold ?_)
local macro_rules | `(tactic| walk_at "KswEnd") => `(tactic| refine Mine.hold ?_)
theorem fillW : ∀ w : World, (hd.heap_39 w.params) = (hd.heap_39 w.params) ∧ PySem.Challenge.rw_nq0081_01.row.prog = PySem.Challenge.rw_nq0081_01.row.prog := by
  k_fill
  exact fun _ => ⟨rfl, rfl⟩
theorem word_spec : ∀ (w : World) (dp un : Nat) (fr : Option (List Env)) (gd : Option (List Code)) (s : Shared) (Q E : Value → Shared → Prop) (n : Nat) (t : Tok),
    Gr w s.heap → n < 65536 → dp + 4 < recursionLimit → un + 50 < cLine →
    (∀ h' tk t', Ext [] s.heap h' → Q (.bytes (apLoop n []).toArray t') { s with heap := h', toks := tk }) →
    wpAny (model PySem.Challenge.rw_nq0081_01.row.prog w) (Around.mk none dp fr gd un) (call (.ref 145) [.int n t]) Q E s := by
  intro w dp un fr gd s Q E n t g hn hdp hun hQ
  refine' enterC [] [] [(Str.ofString "number", .int n t)] g ?hn ?ho ?hcd ?room ?bind ?kin ?nd ?c2 ?c3 ?c4 ?_
  case hn => intro q hq; cases hq
  case ho => k_is
  case hcd => k_is
  case room => omega
  case bind => exact rfl
  case kin => exact rfl
  case nd => decide +kernel
  case c2 => exact rfl
  case c3 => exact rfl
  case c4 => exact rfl
  intro g0 L h1 tk1 cells mean mg mb hext hsub hL X T F N Y
  k_cells Y
  simp only [List.cons_append, List.nil_append] at N
  rename_i o1 d1
  replace d1 : o1.data = .cell (some (.int n t)) := d1
  k_steps
  rename Fr _ _ _ _ => F2
  rename News _ _ _ _ => N2
  refine Hold.of ?_
  refine' ksw_while (σ := Nat × Tok) (fun _ => [(L + 1, o1)]) (fun c => [(Str.ofString "size", .int c.1 c.2)]) (fun _ => True) []
    (fun c => c.1 ≤ 4 ∧ ∀ j, j < c.1 → 16 ^ j ≤ n) (fun c => 5 - c.1) (0, _) F2 N2 trivial ?hk ?hp ?turn ?hE
  case hk => intro q hq; rcases List.mem_cons.mp hq with rfl | hq; exact rfl; cases hq
  case hp => exact ⟨Nat.zero_le _, fun j hj => absurd hj (Nat.not_lt_zero _)⟩
  case hE => passes_own
  case turn =>
    intro c u h tk hf hp F3 N3
    obtain ⟨q, tq⟩ := c
    obtain ⟨hq, hv⟩ := hp
    dsimp only at hq hv F3 N3
    k_steps
    · rename Fr _ _ _ _ => F4
      rename News _ _ _ _ => N4
      rename (16 : Int) ^ _ ≤ _ => hle
      refine Hold.of ?_
      have hle' : 16 ^ q ≤ n := by
        have e : (q : Int).toNat = q := by simp
        rw [e] at hle
        exact_mod_cast hle
      refine' ksw_end (q + 1, _) F4 N4 ?hled trivial ?hk9 ?same ?hp9 ?hmu
      case hk9 => intro z hz; rcases List.mem_cons.mp hz with rfl | hz; exact rfl; cases hz
      case hled => exact fun _ h => h
      case same =>
        intro z h2 h3
        have n1 : z ≠ Str.ofString "size" := h2 _ (.head _)
        simp only [n1, if_false, kstB, h3, Bool.false_eq_true]
      case hp9 =>
        refine ⟨?_, ?_⟩
        · show q + 1 ≤ 4
          rcases Nat.lt_or_ge q 4 with h | h
          · omega
          · have : q = 4 := by omega
            subst this; omega
        · intro j hj
          rcases Nat.lt_or_ge j q with h | h
          · exact hv j h
          · have : j = q := by have : j < q + 1 := hj; omega
            subst this; exact hle'
      case hmu => show 5 - (q + 1) < 5 - q; omega
    · refine Hold.of ?_
      refine comp_start (cl := [(Str.ofString "number", L + 1)]) (by with_unfolding_all rfl) rfl (by decide) ?_
      k_steps
      rename ¬ (16 : Int) ^ _ ≤ _ => hge
      rename IsRange _ _ _ _ _ _ _ _ => hR
      rename Fr _ _ _ _ => F4
      rename News _ _ _ _ => N4
      refine Hold.of ?_
      have hq4 : q = 0 ∨ q = 1 ∨ q = 2 ∨ q = 3 ∨ q = 4 := by omega
      refine src_range (k := q) rfl hR (by rcases hq4 with rfl | rfl | rfl | rfl | rfl <;> rfl) (by rcases hq4 with rfl | rfl | rfl | rfl | rfl <;> rfl) F4 N4 ?_
      intro I h5 S
      refine compEval S (fun i ys nw => nw = [(L + 1, o1)] ∧ IntsAre ys ((List.range i).map fun j => ((65 + n / 16 ^ (q - 1 - j) % 16 : Nat) : Int))) (by decide) rfl rfl (by rw [sizeLine_eq]; omega) ⟨rfl, .nil⟩ (CompTurn.of ?_) ?_
      · intro C fp i v ys m2 news1 h6 tk6 own oC hi hP hJ hyl hnf hown hCf hnone hns hmx F6 N6
        obtain ⟨rfl, hI⟩ := hJ
        obtain ⟨tv, rfl⟩ := hP
        refine tests_nil ?_
        simp only [if_true, List.cons_append, List.nil_append] at N6 ⊢
        k_steps
        have e : (16 : Int) ^ ((q : Int) - 1 + (i : Int) * (-1)).toNat = ((16 ^ (q - 1 - i) : Nat) : Int) := by
          rw [show ((q : Int) - 1 + (i : Int) * (-1)).toNat = q - 1 - i by omega, Int.natCast_pow]; rfl
        rw [e]
        have hpos : 0 < 16 ^ (q - 1 - i) := Nat.pow_pos (by decide)
        have hlt : 16 ^ (q - 1 - i) ≤ 16 ^ 4 := Nat.pow_le_pow_right (by decide) (by omega)
        generalize hd : 16 ^ (q - 1 - i) = d at hpos hlt ⊢
        refine floordiv_int (by omega) ?_ (Or.inl (PyProof.noPylong_small (by omega)))
        dsimp only
        k_steps
        refine ⟨_, _, _, rfl, ‹_›, (fun p hp => N6 p ?_), hnf, rfl, ?_⟩
        · rcases List.mem_cons.mp hp with rfl | hp
          · exact .head _
          · exact .tail _ (.tail _ hp)
        · rw [List.range_succ, List.map_append, List.map_singleton, hd]
          refine intsAre_append hI ?_
          rw [show (65 + ((n : Int).fdiv (d : Int)).fmod 16) = ((65 + n / d % 16 : Nat) : Int) by rw [Int.fdiv_eq_ediv_of_nonneg _ (by omega), Int.fmod_eq_emod_of_nonneg _ (by omega)]; push_cast; rfl]
          exact .cons _ _ .nil
      · intro D nn ys news1 h6 tk6 hJ hks hkD hnD F6 N6
        obtain ⟨rfl, hI⟩ := hJ
        k_steps
        refine KBa.make_K F6 N6 rfl (D := D) (⟨_, (N6 _ (.head _)).1, rfl, _, rfl⟩) hI ?_ (by simp; omega) ?_
        · intro z hz
          obtain ⟨j, hj, rfl⟩ := List.mem_map.mp hz
          constructor
          · omega
          · have : n / 16 ^ (q - 1 - j) % 16 < 16 := Nat.mod_lt _ (by decide)
            omega
        · intro h7 t7 k7 F7 N7 _
          rw [show byteArr ((List.range q).map fun j => ((65 + n / 16 ^ (q - 1 - j) % 16 : Nat) : Int)) = (apLoop n []).toArray by
            rw [ap_digits n q hv (by
              have e : (q : Int).toNat = q := by simp
              rw [e] at hge
              exact Nat.lt_of_not_le fun h => hge (by exact_mod_cast h))]
            unfold byteArr
            rw [List.map_map]
            congr 1]
          exact hQ _ _ _ (fun b o n e => F7.keep b o (hext b o n e))
end Mine
end
section
open PySem
namespace Mine
open PySem.Sre

def fcode : Array Nat := #[14, 4, 0, 8, 4294967295, 24, 5, 0, 4294967295, 2, 1, 16, 70, 16, 76, 16, 65, 16, 71, 16, 83, 16, 32, 16, 40, 17, 0, 24, 6, 0, 4294967295, 20, 41, 1, 17, 1, 16, 41, 1]

def To (B : Nat) (m m' : M) : Prop := ∃ k, k ≤ B ∧ ∀ n, M.runFor (k + n) m = M.runFor n m'
theorem To.refl {m : M} : To 0 m m := ⟨0, Nat.le_refl _, fun n => by rw [Nat.zero_add]⟩
theorem To.trans {a b : Nat} {m m' m'' : M} (h : To a m m') (h' : To b m' m'') : To (a + b) m m'' := by
  obtain ⟨k, hk, e⟩ := h
  obtain ⟨l, hl, e'⟩ := h'
  exact ⟨k + l, by omega, fun n => by rw [Nat.add_assoc, e, e']⟩
theorem To.step {m m' : M} (ho : m.outcome = none) (h : m.step = m') : To 1 m m' :=
  ⟨1, Nat.le_refl _, fun n => by rw [Nat.add_comm, M.runFor, ho, h]; rfl⟩
theorem To.mono {a b : Nat} {m m' : M} (h : To a m m') (hb : a ≤ b) : To b m m' := let ⟨k, hk, e⟩ := h; ⟨k, Nat.le_trans hk hb, e⟩

/-- a state of the machine in this pattern -/
abbrev St (tx : Array Nat) (pc pos handed : Nat) (mk : Array (Option Nat)) (lm li : Int) (fs : List Sre.Frame) (wt : Nat) (an : Option Bool) (sn : Seen) : M :=
  { code := fcode, text := tx, lim := tx.size, start := 0, pc, pos, handed, marks := mk, lastmark := lm, lastindex := li, frames := fs, weight := wt, answer := an, seen := sn }

section
variable {tx : Array Nat} {pc pos hn wt c : Nat} {mk : Array (Option Nat)} {lm li : Int} {fs : List Sre.Frame} {sn : Seen}
theorem lit_ok (h0 : fcode.getD pc 0 = 16) (h1 : fcode.getD (pc + 1) 0 = c) (hpc : pc < 39) (hp : pos < tx.size) (hc : tx.getD pos 0 = c) :
    To 1 (St tx pc pos hn mk lm li fs wt none sn) (St tx (pc + 2) (pos + 1) hn mk lm li fs wt none (sn.add 16)) := by
  refine To.step rfl ?_
  have hpc' : pc < fcode.size := hpc
  simp only [M.step, Option.isSome, Bool.false_eq_true, if_false, hpc', if_true, M.exec, M.word, Nat.add_zero, h0]
  have : ops[16]? = some .LITERAL := rfl
  have hp' : ¬ (pos ≥ tx.size) := by omega
  simp only [this, hp', if_false, accepts, h0, h1, hc, itemWidth, beq_self_eq_true]
theorem lit_no (h0 : fcode.getD pc 0 = 16) (h1 : fcode.getD (pc + 1) 0 = c) (hpc : pc < 39) (hp : pos < tx.size → tx.getD pos 0 ≠ c) :
    To 1 (St tx pc pos hn mk lm li fs wt none sn) (St tx pc pos hn mk lm li fs wt (some false) (sn.add 16)) := by
  refine To.step rfl ?_
  have hpc' : pc < fcode.size := hpc
  simp only [M.step, Option.isSome, Bool.false_eq_true, if_false, hpc', if_true, M.exec, M.word, Nat.add_zero, h0]
  have : ops[16]? = some .LITERAL := rfl
  by_cases hp' : pos ≥ tx.size
  · simp only [this, hp', if_true, M.say]
  · have hne := hp (by omega)
    have : (tx.getD pos 0 == c) = false := beq_eq_false_iff_ne.mpr hne
    simp only [*, if_false, accepts, h0, h1, M.say, ‹ops[16]? = some .LITERAL›]

theorem mark_ok (i : Nat) (h0 : fcode.getD pc 0 = 17) (h1 : fcode.getD (pc + 1) 0 = i) (hpc : pc < 39) (hl : (i : Int) ≤ lm + 1) (hle : lm ≤ (i : Int)) :
    To 1 (St tx pc pos hn mk lm li fs wt none sn) (St tx (pc + 2) pos hn (mk.setIfInBounds i (some pos)) i (if i % 2 == 1 then (i / 2 + 1 : Nat) else li) fs wt none (sn.add 17)) := by
  refine To.step rfl ?_
  have hpc' : pc < fcode.size := hpc
  simp only [M.step, Option.isSome, Bool.false_eq_true, if_false, hpc', if_true, M.exec, M.word, Nat.add_zero, h0]
  have : ops[17]? = some .MARK := rfl
  have hm : max lm (i : Int) = i := Int.max_eq_right hle
  simp only [this, M.mark, h1, hl, if_true, hm]

abbrev frB (pc pos n : Nat) (lm : Int) : Sre.Frame := { wait := .giveBack, pc, pos, outermost := true, count := n, kept := { lastmark := lm, lastindex := -1 } }

theorem back_to (hw : fcode.getD (pc + 2) 0 = 0) (hj : fcode.getD (pc + 1) 0 = c) {p n p1 hn1 : Nat} {lm1 li1 : Int} {pc1 : Nat} (hwt : wt < 1000) :
    To 1 (St tx pc1 p1 hn1 mk lm1 li1 (frB pc (p + 1) (n + 1) lm :: fs) (wt + 1) (some false) sn) (St tx (pc + 1 + c) p p mk lm (-1) (frB pc p n lm :: fs) (wt + 1) none sn) := by
  refine To.step rfl ?_
  have h1 : ¬ (((n + 1 : Nat) : Int) - 1 < 0) := by omega
  have h2 : ((n + 1 : Nat) : Int) - 1 = n := by omega
  have h3 : ¬ (wt + 1 > 16777216) := by omega
  simp only [M.step, Option.isSome, Bool.false_eq_true, if_false, M.resume, M.putBack, M.word, hw, M.afterRun, M.attempt, M.frame, hj]
  simp [h2, h3]
  intro h; omega
theorem back_end (hw : fcode.getD (pc + 2) 0 = 0) {p p1 hn1 : Nat} {lm1 li1 : Int} {pc1 : Nat} :
    To 1 (St tx pc1 p1 hn1 mk lm1 li1 (frB pc p 0 lm :: fs) (wt + 1) (some false) sn) (St tx pc p hn1 mk lm (-1) fs wt (some false) sn) := by
  refine To.step rfl ?_
  simp only [M.step, Option.isSome, Bool.false_eq_true, if_false, M.resume, M.putBack, M.word, hw]
  simp [M.say]
theorem back_yes {p n p1 hn1 : Nat} {lm1 li1 : Int} {pc1 : Nat} :
    To 1 (St tx pc1 p1 hn1 mk lm1 li1 (frB pc p n lm :: fs) (wt + 1) (some true) sn) (St tx pc p hn1 mk lm1 li1 fs wt (some true) sn) := by
  refine To.step rfl ?_
  simp only [M.step, Option.isSome, Bool.false_eq_true, if_false, M.resume]
  simp [M.say]
theorem succ_ok : To 1 (St tx 38 pos hn mk lm li fs wt none sn) (St tx 38 pos pos mk lm li fs wt (some true) (sn.add 1)) := by
  refine To.step rfl ?_
  have hpc' : 38 < fcode.size := by decide
  have h0 : fcode.getD 38 0 = 1 := rfl
  simp only [M.step, Option.isSome, Bool.false_eq_true, if_false, hpc', if_true, M.exec, M.word, Nat.add_zero, h0]
  have : ops[1]? = some .SUCCESS := rfl
  simp [this, M.say]

theorem run_any : ∀ (k st found : Nat) (sn : Seen), (∀ j, j < k → tx.getD (st + j) 0 ≠ 10) → Sre.run fcode tx 9 k st found sn = .ok (found + k, sn)
  | 0, _, _, _, _ => rfl
  | k + 1, st, found, sn, h => by
    have h0 := h 0 (Nat.succ_pos _)
    rw [Nat.add_zero] at h0
    have e : accepts fcode 9 (tx.getD st 0) sn = .ok (true, sn) := by
      show Except.ok (tx.getD st 0 != 10, sn) = _
      rw [bne_iff_ne.mpr h0]
    rw [Sre.run, e]
    show Sre.run fcode tx 9 k (st + 1) (found + 1) sn = _
    rw [run_any k (st + 1) (found + 1) sn (fun j hj => by have := h (j + 1) (by omega); rwa [show st + 1 + j = st + (j + 1) by omega])]
    congr 2; omega
theorem run_not : ∀ (k n st found : Nat) (sn : Seen), (∀ j, j < n → tx.getD (st + j) 0 ≠ 41) → n ≤ k → (n < k → tx.getD (st + n) 0 = 41) → Sre.run fcode tx 31 k st found sn = .ok (found + n, sn)
  | 0, n, _, _, _, _, hn, _ => by have : n = 0 := by omega
                                  subst this; rfl
  | k + 1, 0, st, found, sn, h, _, hb => by
    have h0 := hb (Nat.succ_pos _)
    rw [Nat.add_zero] at h0
    have e : accepts fcode 31 (tx.getD st 0) sn = .ok (false, sn) := by
      show Except.ok (tx.getD st 0 != 41, sn) = _
      rw [h0]; rfl
    rw [Sre.run, e]
    rfl
  | k + 1, n + 1, st, found, sn, h, hn, hb => by
    have h0 := h 0 (Nat.succ_pos _)
    rw [Nat.add_zero] at h0
    have e : accepts fcode 31 (tx.getD st 0) sn = .ok (true, sn) := by
      show Except.ok (tx.getD st 0 != 41, sn) = _
      rw [bne_iff_ne.mpr h0]
    rw [Sre.run, e]
    show Sre.run fcode tx 31 k (st + 1) (found + 1) sn = _
    rw [run_not k n (st + 1) (found + 1) sn (fun j hj => by have := h (j + 1) (by omega); rwa [show st + 1 + j = st + (j + 1) by omega]) (by omega) (fun h' => by have := hb (by omega); rwa [show st + 1 + n = st + (n + 1) by omega])]
    congr 2; omega

theorem rep_ok {n : Nat} (h0 : fcode.getD pc 0 = 24) (h1 : fcode.getD (pc + 1) 0 = c) (h2 : fcode.getD (pc + 2) 0 = 0) (h3 : fcode.getD (pc + 3) 0 = 4294967295) (hpc : pc < 39) (hp : pos ≤ tx.size) (hN : tx.size < 1000000) (hwt : wt < 1000)
    (hr : ∀ sn, Sre.run fcode tx (pc + 4) (tx.size - pos) pos 0 sn = .ok (n, sn)) :
    ∃ sn', To 1 (St tx pc pos hn mk lm (-1) fs wt none sn) (St tx (pc + 1 + c) (pos + n) (pos + n) mk lm (-1) (frB pc (pos + n) n lm :: fs) (wt + 1) none sn') := by
  refine ⟨(sn.add 24).add (fcode.getD (pc + 4) 0), To.step rfl ?_⟩
  have hpc' : pc < fcode.size := hpc
  simp only [M.step, Option.isSome, Bool.false_eq_true, if_false, hpc', if_true, M.exec, M.word, Nat.add_zero, h0]
  have : ops[24]? = some .REPEAT_ONE := rfl
  have e1 : ¬ (((0 : Nat) : Int) > (tx.size : Int) - pos) := by omega
  have e2 : min 4294967295 ((tx.size : Int) - pos).toNat = tx.size - pos := by omega
  have e3 : ¬ (wt + 1 > 16777216) := by omega
  simp only [this, h2, h3, e1, if_false, e2, hr, Bool.false_eq_true, Nat.not_lt_zero, M.afterRun, M.attempt, M.frame, M.keep, M.word, h1]
  simp [e3]

abbrev Sc (tx : Array Nat) (p : Nat) (mk : Array (Option Nat)) (sn : Seen) : M := St tx 11 p p mk (-1) (-1) [frB 5 p p (-1)] 1 none sn

theorem scan_one {p : Nat} (h : p + 1 < tx.size → tx.getD (p + 1) 0 ≠ 70) : ∃ sn', To 2 (Sc tx (p + 1) mk sn) (Sc tx p mk sn') :=
  ⟨_, (lit_no rfl rfl (by decide) h).trans (back_to (c := 5) rfl rfl (by decide))⟩
theorem scan_all : ∀ (d p : Nat) (sn : Seen), (∀ j, p < j → j ≤ p + d → j < tx.size → tx.getD j 0 ≠ 70) → ∃ sn', To (2 * d) (Sc tx (p + d) mk sn) (Sc tx p mk sn')
  | 0, _, sn, _ => ⟨sn, To.refl⟩
  | d + 1, p, sn, h => by
    obtain ⟨sn1, h1⟩ := scan_one (tx := tx) (mk := mk) (sn := sn) (p := p + d) (fun hlt => h _ (by omega) (by omega) hlt)
    obtain ⟨sn2, h2⟩ := scan_all d p sn1 (fun j h1 h2 h3 => h j h1 (by omega) h3)
    exact ⟨sn2, (h1.trans h2).mono (by omega)⟩

structure FlagsAt (tx : Array Nat) (p : Nat) : Prop where
  le : p + 7 ≤ tx.size
  c0 : tx.getD p 0 = 70
  c1 : tx.getD (p + 1) 0 = 76
  c2 : tx.getD (p + 2) 0 = 65
  c3 : tx.getD (p + 3) 0 = 71
  c4 : tx.getD (p + 4) 0 = 83
  c5 : tx.getD (p + 5) 0 = 32
  c6 : tx.getD (p + 6) 0 = 40

theorem head7 {p : Nat} (f : FlagsAt tx p) : ∃ sn', To 8 (Sc tx p mk sn) (St tx 27 (p + 7) p (mk.setIfInBounds 0 (some (p + 7))) 0 (-1) [frB 5 p p (-1)] 1 none sn') := by
  have l := f.le
  have a1 := lit_ok (tx := tx) (hn := p) (mk := mk) (lm := -1) (li := -1) (fs := [frB 5 p p (-1)]) (wt := 1) (sn := sn) (pc := 11) rfl rfl (by decide) (by omega) f.c0
  have a2 := a1.trans (lit_ok rfl rfl (by decide) (by omega) f.c1)
  have a3 := a2.trans (lit_ok rfl rfl (by decide) (by omega) f.c2)
  have a4 := a3.trans (lit_ok rfl rfl (by decide) (by omega) f.c3)
  have a5 := a4.trans (lit_ok rfl rfl (by decide) (by omega) f.c4)
  have a6 := a5.trans (lit_ok rfl rfl (by decide) (by omega) f.c5)
  have a7 := a6.trans (lit_ok rfl rfl (by decide) (by omega) f.c6)
  have a8 := a7.trans (mark_ok 0 rfl rfl (by decide) (by decide) (by decide))
  exact ⟨_, a8.mono (by decide)⟩

theorem hit {p n : Nat} (f : FlagsAt tx p) (hN : tx.size < 1000000) (hn : p + 7 + n < tx.size) (hb : ∀ j, j < n → tx.getD (p + 7 + j) 0 ≠ 41) (he : tx.getD (p + 7 + n) 0 = 41) :
    ∃ sn', To 20 (Sc tx p mk sn) { St tx 5 p (p + 7 + n + 1) ((mk.setIfInBounds 0 (some (p + 7))).setIfInBounds 1 (some (p + 7 + n))) 1 1 [] 0 (some true) sn' with outcome := some .matched } := by
  obtain ⟨s1, a1⟩ := head7 (mk := mk) (sn := sn) f
  obtain ⟨s2, a2⟩ := rep_ok (tx := tx) (pc := 27) (c := 6) (pos := p + 7) (hn := p) (mk := mk.setIfInBounds 0 (some (p + 7))) (lm := 0) (fs := [frB 5 p p (-1)]) (wt := 1) (sn := s1) (n := n) rfl rfl rfl rfl (by decide) (by omega) hN (by decide)
    (fun sn => by rw [run_not (tx.size - (p + 7)) n (p + 7) 0 sn hb (by omega) (fun _ => he), Nat.zero_add])
  have a3 := (a1.trans a2).trans (mark_ok 1 rfl rfl (by decide) (by decide) (by decide))
  have a4 := a3.trans (lit_ok rfl rfl (by decide) hn he)
  have a5 := ((a4.trans succ_ok).trans back_yes).trans back_yes
  exact ⟨_, (a5.trans (To.step rfl rfl)).mono (by decide)⟩

theorem miss1 {p : Nat} (f : FlagsAt tx (p + 1)) (hN : tx.size < 1000000) (hn : p + 9 = tx.size) (hb : tx.getD (p + 8) 0 ≠ 41) :
    ∃ sn' mk', mk'.size = mk.size ∧ To 30 (Sc tx (p + 1) mk sn) (Sc tx p mk' sn') := by
  obtain ⟨s1, a1⟩ := head7 (mk := mk) (sn := sn) f
  obtain ⟨s2, a2⟩ := rep_ok (tx := tx) (pc := 27) (c := 6) (pos := p + 1 + 7) (hn := p + 1) (mk := mk.setIfInBounds 0 (some (p + 1 + 7))) (lm := 0) (fs := [frB 5 (p + 1) (p + 1) (-1)]) (wt := 1) (sn := s1) (n := 1) rfl rfl rfl rfl (by decide) (by omega) hN (by decide)
    (fun sn => by rw [run_not (tx.size - (p + 1 + 7)) 1 (p + 1 + 7) 0 sn (fun j hj => by rw [show p + 1 + 7 + j = p + 8 by omega]; exact hb) (by omega) (fun h => by omega), Nat.zero_add])
  have a3 := (a1.trans a2).trans (mark_ok 1 rfl rfl (by decide) (by decide) (by decide))
  have a4 := a3.trans (lit_no (c := 41) rfl rfl (by decide) (fun h => by omega))
  have a5 := a4.trans (back_to (c := 6) (n := 0) rfl rfl (by decide))
  have a6 := a5.trans (mark_ok 1 rfl rfl (by decide) (by decide) (by decide))
  have a7 := a6.trans (lit_no (c := 41) rfl rfl (by decide) (fun h => hb))
  have a8 := (a7.trans (back_end rfl)).trans (back_to (c := 5) rfl rfl (by decide))
  exact ⟨_, _, by simp, a8.mono (by decide)⟩

theorem begin_ok (hN : tx.size < 1000000) (h8 : 8 ≤ tx.size) (hnl : ∀ j, j < tx.size → tx.getD j 0 ≠ 10) : ∃ sn', To 1 (forMatch fcode tx 1 0 tx.size false false) (Sc tx tx.size (Array.replicate 2 none) sn') := by
  have e : forMatch fcode tx 1 0 tx.size false false = St tx 5 0 0 (Array.replicate 2 none) (-1) (-1) [] 0 none (({} : Seen).add 14) := by
    unfold forMatch
    have h1 : header fcode = (8, 5) := rfl
    have h2 : ¬ (tx.size - 0 < 8) := by omega
    simp only [h1, h2, decide_false, Bool.and_false, Bool.false_eq_true, if_false]
    rfl
  rw [e]
  obtain ⟨sn', a⟩ := rep_ok (tx := tx) (pc := 5) (c := 5) (pos := 0) (hn := 0) (mk := Array.replicate 2 none) (lm := -1) (fs := []) (wt := 0) (sn := ({} : Seen).add 14) (n := tx.size) rfl rfl rfl rfl (by decide) (Nat.zero_le _) hN (by decide)
    (fun sn => by rw [Nat.sub_zero, run_any tx.size 0 0 sn (fun j hj => by rw [Nat.zero_add]; exact hnl j hj), Nat.zero_add])
  rw [Nat.zero_add] at a
  exact ⟨sn', a⟩
end
end Mine
end
section
open PySem PySem.W PyProof.Rows PySem.Calls PySem.Spec
namespace Mine
open PySem.Builtin PySem.Builtin.Re

theorem plainAttrs_pat : PlainAttrs "re.Pattern" :=
  ⟨⟨"object.__getattribute__", by rw [typeLookup_type, builtinLookup_eq_fast]; kernel_rfl, by decide +kernel⟩, by rw [typeLookup_type, builtinLookup_eq_fast]; kernel_rfl⟩
theorem plainAttrs_mat : PlainAttrs "re.Match" :=
  ⟨⟨"object.__getattribute__", by rw [typeLookup_type, builtinLookup_eq_fast]; kernel_rfl, by decide +kernel⟩, by rw [typeLookup_type, builtinLookup_eq_fast]; kernel_rfl⟩
theorem slot_match : Slot "re.Pattern" "match" "re.Pattern.match" :=
  .of (owner := "re.Pattern") (n := "match") (by rw [typeLookup_type, builtinLookup_eq_fast]; kernel_rfl) (by decide +kernel) (by decide +kernel) (by decide +kernel)
    (by first | exact .inl (by decide +kernel) | exact .inr (by decide +kernel)) (by rw [isSubtype_type]; kernel_rfl)
theorem slot_group : Slot "re.Match" "group" "re.Match.group" :=
  .of (owner := "re.Match") (n := "group") (by rw [typeLookup_type, builtinLookup_eq_fast]; kernel_rfl) (by decide +kernel) (by decide +kernel) (by decide +kernel)
    (by first | exact .inl (by decide +kernel) | exact .inr (by decide +kernel)) (by rw [isSubtype_type]; kernel_rfl)
theorem type_match : typeOf (.builtin "re.Pattern.match") = pure (.type "method_descriptor") := by show builtinType _ = _; rw [builtinType_eq_fast]; kernel_rfl
theorem type_group : typeOf (.builtin "re.Match.group") = pure (.type "method_descriptor") := by show builtinType _ = _; rw [builtinType_eq_fast]; kernel_rfl
theorem entry_match : entryFor table "re.Pattern.match" = some Builtin.«re.Pattern.match» := entryFor_of_tree (by kernel_rfl)
theorem entry_group : entryFor table "re.Match.group" = some Builtin.«re.Match.group» := entryFor_of_tree (by kernel_rfl)
theorem args_match (a b : Value) : argsOk "re.Pattern.match" ⟨[a, b], []⟩ := by
  unfold argsOk; kernel_rfl
theorem args_group (a b : Value) : argsOk "re.Match.group" ⟨[a, b], []⟩ := by
  unfold argsOk; kernel_rfl
end Mine
end
section
open PySem PySem.W PyProof.Rows PySem.Calls PySem.Spec
namespace Mine
open PySem.Builtin PySem.Builtin.Re

section
variable {M : Model} {A : Around} {E : Value → Shared → Prop} {s : Shared}

theorem drive_wp {Q : Sre.M → Shared → Prop} : ∀ (j turns : Nat) (m mf : Sre.M), j < turns → (∀ n, j * 4 + 4 ≤ n → Sre.M.runFor n m = mf) → mf.outcome.isSome = true → Q mf s → wpAny M A (reDrive turns m) Q E s
  | j, 0, _, _, h, _, _, _ => absurd h (Nat.not_lt_zero _)
  | j, turns + 1, m, mf, h, hr, ho, hq => by
    unfold reDrive
    show wpAny M A (if (Sre.M.runFor reTurnSteps m).outcome.isSome = true then pure (Sre.M.runFor reTurnSteps m) else do rule "sre.turn"; reDrive turns (Sre.M.runFor reTurnSteps m)) Q E s
    by_cases hs : (Sre.M.runFor reTurnSteps m).outcome.isSome = true
    · rw [if_pos hs]
      have stay : ∀ n (m : Sre.M), m.outcome.isSome = true → Sre.M.runFor n m = m := fun n m hm => by cases n with | zero => rfl | succ n => rw [Sre.M.runFor, if_pos hm]
      have split : ∀ a b (m : Sre.M), Sre.M.runFor (a + b) m = Sre.M.runFor b (Sre.M.runFor a m) := by
        intro a
        induction a with
        | zero => intro b m; rw [Nat.zero_add]; rfl
        | succ a ih =>
          intro b m
          rw [Nat.succ_add, Sre.M.runFor, Sre.M.runFor]
          by_cases hm : m.outcome.isSome = true
          · rw [if_pos hm, if_pos hm, stay b m hm]
          · rw [if_neg hm, if_neg hm, ih]
      have e : Sre.M.runFor reTurnSteps m = mf := by
        rw [← hr (reTurnSteps + (j * 4)) (by show j * 4 + 4 ≤ 4 + j * 4; omega), split, stay _ _ hs]
      rw [e]
      exact wpAny_pure hq
    · rw [if_neg hs]
      refine wpAny_bind (wpAny_rule ?_)
      have stay : ∀ n (m : Sre.M), m.outcome.isSome = true → Sre.M.runFor n m = m := fun n m hm => by cases n with | zero => rfl | succ n => rw [Sre.M.runFor, if_pos hm]
      have split : ∀ a b (m : Sre.M), Sre.M.runFor (a + b) m = Sre.M.runFor b (Sre.M.runFor a m) := by
        intro a
        induction a with
        | zero => intro b m; rw [Nat.zero_add]; rfl
        | succ a ih =>
          intro b m
          rw [Nat.succ_add, Sre.M.runFor, Sre.M.runFor]
          by_cases hm : m.outcome.isSome = true
          · rw [if_pos hm, if_pos hm, stay b m hm]
          · rw [if_neg hm, if_neg hm, ih]
      cases j with
      | zero =>
        have := hr reTurnSteps (by show 0 * 4 + 4 ≤ 4; omega)
        rw [this] at hs
        exact absurd ho hs
      | succ j =>
        refine drive_wp j turns _ mf (by omega) (fun n hn => ?_) ho hq
        rw [← split]
        exact hr _ (by show (j + 1) * 4 + 4 ≤ 4 + n; omega)

theorem run_wp {Q : Option Sre.M → Shared → Prop} {m mf : Sre.M} {k : Nat} (hk : k < 1000000) (hr : ∀ n, k ≤ n → Sre.M.runFor n m = mf) (ho : mf.outcome = some .matched) (hq : Q (some mf) s) : wpAny M A (reRunToEnd m) Q E s := by
  unfold reRunToEnd
  refine wpAny_bind (drive_wp k (2 ^ 64) m mf (Nat.lt_of_lt_of_le hk (by decide)) (fun n hn => hr n (by omega)) (by rw [ho]; rfl) ?_)
  refine wpAny_bind (wpAny_forIn_list _ (fun _ _ s' => s' = s) _ ?_ ?_ _ _ rfl)
  · rintro i l r s' rfl
    by_cases h : mf.seen.has i = true
    · simp only [h, if_true]
      exact wpAny_bind (wpAny_rule (wpAny_pure rfl))
    · simp only [h, if_false, Bool.false_eq_true]
      exact wpAny_pure rfl
  · rintro r s' rfl
    rw [ho]
    exact wpAny_pure hq
end

abbrev patObj : Obj := { cls := .type "re.Pattern", data := .fields #[.bytes #[46, 42, 70, 76, 65, 71, 83, 32, 92, 40, 40, 63, 80, 60, 102, 108, 97, 103, 115, 62, 91, 94, 92, 41, 93, 42, 41, 92, 41] 285, .int 0 331, .int 1 0, .ref 33, .ref 34, .ref 35, .int 1 0] }
abbrev codeObj : Obj := { cls := .type "tuple", data := .seq #[.int 14 0, .int 4 0, .int 0 0, .int 8 0, .int 4294967295 0, .int 24 0, .int 5 0, .int 0 0, .int 4294967295 0, .int 2 0, .int 1 0, .int 16 0, .int 70 0, .int 16 0, .int 76 0, .int 16 0, .int 65 0, .int 16 0, .int 71 0, .int 16 0, .int 83 0, .int 16 0, .int 32 0, .int 16 0, .int 40 0, .int 17 0, .int 0 0, .int 24 0, .int 6 0, .int 0 0, .int 4294967295 0, .int 20 0, .int 41 0, .int 1 0, .int 17 0, .int 1 0, .int 16 0, .int 41 0, .int 1 0] }
theorem ecode : Array.map (fun x => x.toNat) (Array.map reRawOf ((some (#[.int 14 0, .int 4 0, .int 0 0, .int 8 0, .int 4294967295 0, .int 24 0, .int 5 0, .int 0 0, .int 4294967295 0, .int 2 0, .int 1 0, .int 16 0, .int 70 0, .int 16 0, .int 76 0, .int 16 0, .int 65 0, .int 16 0, .int 71 0, .int 16 0, .int 83 0, .int 16 0, .int 32 0, .int 16 0, .int 40 0, .int 17 0, .int 0 0, .int 24 0, .int 6 0, .int 0 0, .int 4294967295 0, .int 20 0, .int 41 0, .int 1 0, .int 17 0, .int 1 0, .int 16 0, .int 41 0, .int 1 0] : Array Value)).getD #[])) = fcode := by simp [reRawOf, fcode]
abbrev giObj (w : World) : Obj := { cls := .type "dict", data := .dict #[{ hash := PyData.keyHash w.params (Str.ofString "flags"), key := .str (Str.ofString "flags") 327, val := .int 1 328 }] 1 }
theorem pat_at {w : World} {g : Heap} (X : (hd.heap_39 w.params).In g) : g.get? 36 = some patObj ∧ g.get? 35 = some codeObj ∧ g.get? 33 = some (giObj w) := ⟨X _ _ rfl, X _ _ rfl, X _ _ rfl⟩

abbrev matObj (b : Array UInt8) (t : Tok) (T : Addr) (lim : Nat) : Obj := { cls := .type "re.Match", data := .fields #[.bytes b t, .ref 36, rawInt 0, rawInt (lim : Int), rawInt 1, .ref T] }
abbrev spanObj (hn p e : Nat) : Obj := { cls := .type "tuple", data := .seq #[rawInt 0, rawInt (hn : Int), rawInt (p : Int), rawInt (e : Int)] }

section
variable {prog : Program} {w : World} {A : Around} {E : Value → Shared → Prop} {s : Shared}
theorem match_wp {b : Array UInt8} {t : Tok} {Q : Value → Shared → Prop} {mf : Sre.M} {k p e : Nat} (hP : s.heap.get? 36 = some patObj) (hC : s.heap.get? 35 = some codeObj) (hk : k < 1000000) (hb : b.size < 1000000)
    (hr : ∀ n, k ≤ n → Sre.M.runFor n (Sre.forMatch fcode (b.map (·.toNat)) 1 0 b.size false false) = mf) (ho : mf.outcome = some .matched) (hl : mf.lastmark = 1) (hli : mf.lastindex = 1) (hst : mf.start = 0)
    (h0 : mf.marks.getD 0 none = some p) (h1 : mf.marks.getD 1 none = some e) (hpe : p ≤ e)
    (h : Q (.ref (s.heap.objs.size + 1)) { s with heap := (s.heap.push (spanObj mf.handed p e)).push (matObj b t s.heap.objs.size b.size) }) :
    wpAny (model prog w) A (call (.builtin "re.Pattern.match") [.ref 36, .bytes b t]) Q E s := by
  refine wpAny_call_entry slot_match ⟨_, hP, rfl⟩ entry_match ?_ (args_match _ _)
  unfold Builtin.«re.Pattern.match» reTarget
  refine wpAny_bind ?_
  show wpAny _ _ (do
    let [some string, pos?, lim?] ← reNamed "re.Pattern.match" "match" ["string", "pos", "endpos"] 1 [.bytes b t] [] | unsupported "internal:re:named"
    _) _ _ _
  have en : reNamed "re.Pattern.match" "match" ["string", "pos", "endpos"] 1 [.bytes b t] [] = pure [some (.bytes b t), none, none] := by rfl
  rw [en]
  show wpAny _ _ (do
    let fs ← fieldsOf (.ref 36)
    _) _ _ _
  refine wpAny_bind (wpAny_fieldsOf hP rfl ?_)
  refine wpAny_bind ?_
  have et : reTextOf (.bytes b t) = pure (b.map (·.toNat), 1) := by
    unfold reTextOf
    rw [KBy.quiet_eq]
    rfl
  rw [et]
  refine wpAny_pure ?_
  show wpAny (model prog w) A.in1 (do
    reNoCollectionInside (.bytes b t) 1
    let d ← reRawItems (.ref 35)
    pure ({ pattern := .ref 36, string := .bytes b t, code := d.map (·.toNat), text := b.map (·.toNat), kind := 1, groups := 1, pos := min (0 : Int).toNat (b.map (·.toNat)).size, lim := min (2 ^ 63 - 1 : Int).toNat (b.map (·.toNat)).size } : ReTarget)) _ _ _
  have enc : reNoCollectionInside (.bytes b t) 1 = (do if !(← isInstance (.bytes b t) (.type "bytes")) then noCollectionInside "_sre:a-collection-may-fall-inside-the-match-while-it-holds-a-buffer-that-can-be-written") := rfl
  rw [enc]
  refine wpAny_bind (wpAny_bind (wpAny_isInstance (typeIs_bytes s b t) PySem.F.sub_bytes_bytes ?_))
  refine wpAny_pure ?_
  unfold reRawItems
  refine wpAny_bind (wpAny_bind (wpAny_seqItems hC rfl ?_))
  refine wpAny_pure (wpAny_pure ?_)
  have elim : min (2 ^ 63 - 1 : Int).toNat (b.map (·.toNat)).size = b.size := by
    rw [Array.size_map]; exact Nat.min_eq_right (Nat.le_trans (Nat.le_of_lt hb) (by decide))
  have epos : min (0 : Int).toNat (b.map (·.toNat)).size = 0 := Nat.zero_min _
  dsimp only
  rw [elim, epos, ecode]
  unfold reAnswer
  refine wpAny_bind (run_wp hk hr ho ?_)
  dsimp only
  refine wpAny_bind ?_
  unfold reNewMatch
  have r1 : List.range 1 = [0] := rfl
  have hd : decide (e < p) = false := decide_eq_false (by omega)
  have h11 : (((0 + 1 : Nat) : Int) ≤ 1) := by decide
  simp only [r1, List.any_cons, List.any_nil, List.flatMap_cons, List.flatMap_nil, Nat.mul_zero, h0, h1, hl, hst, hli, Nat.zero_add, hd, Bool.and_false, Bool.or_false, Bool.false_eq_true, if_false, h11, if_true, List.append_nil]
  refine wpAny_bind (wpAny_newTuple ?_)
  unfold newFields
  refine wpAny_newObj_type ?_
  refine wpAny_pure ⟨_, rfl, ?_⟩
  have e2 : (s.heap.push (spanObj mf.handed p e)).objs.size = s.heap.objs.size + 1 := Heap.size_push _ _
  dsimp only
  rw [← e2] at h
  exact h
end
end Mine
end
section
open PySem PySem.W PyProof.Rows PySem.Calls PySem.Spec
namespace Mine
open PySem.Builtin PySem.Builtin.Re

section
variable {prog : Program} {w : World} {A : Around} {E : Value → Shared → Prop} {s : Shared}
theorem gi_map (h : s.heap.get? 33 = some (giObj w)) : s.heap.MapOf (strKind prog w) 33 (fun k => if k = Str.ofString "flags" then some (.int 1 328) else none) := by
  refine ⟨_, _, _, h, ⟨rfl, rfl, rfl⟩, rfl, ?_, ?_⟩
  · intro e he
    simp only [List.mem_toArray, List.mem_singleton] at he
    subst he
    exact ⟨Str.ofString "flags", strKind_is _ _ _ _, rfl⟩
  · intro k
    rw [findBy_of_findIdx?]
    by_cases hk : k = Str.ofString "flags"
    · subst hk
      simp [strKind_is]
    · have : (strKind prog w).is k (.str (Str.ofString "flags") 327) = false := by
        rw [KeyKind.is_eq_decide (strKind_is _ _ _ _), decide_eq_false hk]
      simp [this, hk]

theorem index_str : typeLookup (.type "str") "__index__" = pure none := by rw [typeLookup_type, builtinLookup_eq_fast]; kernel_rfl

theorem group_wp {b : Array UInt8} {t tf : Tok} {lim hn p e : Nat} {Mt T : Addr} {Q : Value → Shared → Prop} (hM : s.heap.get? Mt = some (matObj b t T lim)) (hT : s.heap.get? T = some (spanObj hn p e))
    (hP : s.heap.get? 36 = some patObj) (hG : s.heap.get? 33 = some (giObj w)) (hb : b.size < 1000000) 
    (h : ∀ t' k, Q (.bytes (b.extract p e) t') { s with toks := k }) :
    wpAny (model prog w) A (call (.builtin "re.Match.group") [.ref Mt, .str (Str.ofString "flags") tf]) Q E s := by
  refine wpAny_call_entry slot_group ⟨_, hM, rfl⟩ entry_group ?_ (args_group _ _)
  unfold Builtin.«re.Match.group»
  show wpAny (model prog w) A.in1 (do
    let x ← reFound (.ref Mt)
    ret (← reGroupText x (← reGroupNumber x (.str (Str.ofString "flags") tf)) .none)) _ _ _
  unfold reFound
  refine wpAny_bind (wpAny_bind (wpAny_fieldsOf hM rfl ?_))
  show wpAny (model prog w) A.in1 (do
    let y ← reRawItems (.ref T)
    pure ({ fields := #[.bytes b t, .ref 36, rawInt 0, rawInt (lim : Int), rawInt 1, .ref T], spans := y } : ReFound)) _ _ _
  unfold reRawItems
  refine wpAny_bind (wpAny_bind (wpAny_seqItems hT rfl ?_))
  refine wpAny_pure (wpAny_pure ?_)
  have es : Array.map reRawOf ((some #[rawInt 0, rawInt (hn : Int), rawInt (p : Int), rawInt (e : Int)]).getD #[]) = #[0, (hn : Int), (p : Int), (e : Int)] := by simp [reRawOf, rawInt]
  rw [es]
  generalize hx : (⟨#[.bytes b t, .ref 36, rawInt 0, rawInt (lim : Int), rawInt 1, .ref T], #[0, (hn : Int), (p : Int), (e : Int)]⟩ : ReFound) = x
  have hx1 : x.fields.getD 1 .none = .ref 36 := by rw [← hx]; rfl
  have hx0 : x.fields.getD 0 .none = .bytes b t := by rw [← hx]; rfl
  have hs : x.spans = #[0, (hn : Int), (p : Int), (e : Int)] := by rw [← hx]
  refine wpAny_bind ?_
  unfold reGroupNumber
  have ei : asInt? (.str (Str.ofString "flags") tf) = pure none := rfl
  rw [ei]
  refine wpAny_bind (wpAny_pure ?_)
  simp only [Option.isSome_none, Bool.false_eq_true, if_false]
  refine wpAny_bind (wpAny_specialOf (typeIs_str _ _ _) index_str ?_)
  simp only [Option.isSome_none, Bool.false_eq_true, if_false, hx1]
  refine wpAny_bind (wpAny_fieldsOf hP rfl ?_)
  show wpAny (model prog w) A.in1 (dictGet 33 (.str (Str.ofString "flags") tf) >>= _) _ _ _
  refine wpAny_bind (wpAny_dictGet_of (strKind_is _ _ _ _) (gi_map hG) ?_)
  simp only [if_true]
  refine wpAny_bind ?_
  have e1 : asInt? (.int 1 328) = pure (some 1) := rfl
  rw [e1]
  refine wpAny_pure (wpAny_bind (wpAny_pure ?_))
  simp only [hs, Option.getD_some]
  show wpAny (model prog w) A.in1 (pure (1 : Int).toNat) _ _ _
  refine wpAny_pure ?_
  refine wpAny_bind ?_
  unfold reGroupText
  have g2 : x.spans.getD (2 * (1 : Int).toNat) (-1) = p := by rw [hs]; rfl
  have g3 : x.spans.getD (2 * (1 : Int).toNat + 1) (-1) = e := by rw [hs]; rfl
  rw [g2, g3]
  have n1 : decide ((p : Int) < 0) = false := decide_eq_false (by omega)
  have n2 : decide ((e : Int) < 0) = false := decide_eq_false (by omega)
  simp only [n1, n2, Bool.or_false, Bool.false_eq_true, if_false, hx0]
  have et : reTextOf (.bytes b t) = pure (b.map (·.toNat), 1) := by
    unfold reTextOf
    rw [KBy.quiet_eq]
    rfl
  rw [et]
  refine wpAny_bind (wpAny_pure ?_)
  unfold reSlice
  dsimp only
  simp only [Int.toNat_natCast]
  have ex : (Array.extract (b.map (·.toNat)) p e).map (·.toUInt8) = b.extract p e := by
    rw [← Array.map_extract, Array.map_map]
    have : ((fun x : Nat => x.toUInt8) ∘ fun x : UInt8 => x.toNat) = _root_.id := by funext x; simp
    rw [this, Array.map_id]
  show wpAny _ _ (mkBytes ((Array.extract (b.map (·.toNat)) p e).map (·.toUInt8))) _ _ _
  rw [ex]
  refine wpAny_mkBytes (hb := by rw [Array.size_extract, sizeLine_eq]; omega) ?_
  exact wpAny_pure ⟨_, rfl, h _ _⟩
end
end Mine
end
section
open PySem PySem.W PyProof.Rows PySem.Calls PySem.Spec
namespace Mine
open PySem.Builtin PySem.Builtin.Bytes

theorem slot_split : Slot "bytes" "split" "bytes.split" :=
  .of (owner := "bytes") (n := "split") (by rw [typeLookup_type, builtinLookup_eq_fast]; kernel_rfl) (by decide +kernel) (by decide +kernel) (by decide +kernel)
    (by first | exact .inl (by decide +kernel) | exact .inr (by decide +kernel)) (by rw [isSubtype_type]; kernel_rfl)
theorem slot_bjoin : Slot "bytes" "join" "bytes.join" :=
  .of (owner := "bytes") (n := "join") (by rw [typeLookup_type, builtinLookup_eq_fast]; kernel_rfl) (by decide +kernel) (by decide +kernel) (by decide +kernel)
    (by first | exact .inl (by decide +kernel) | exact .inr (by decide +kernel)) (by rw [isSubtype_type]; kernel_rfl)
theorem type_split : typeOf (.builtin "bytes.split") = pure (.type "method_descriptor") := by show builtinType _ = _; rw [builtinType_eq_fast]; kernel_rfl
theorem type_bjoin : typeOf (.builtin "bytes.join") = pure (.type "method_descriptor") := by show builtinType _ = _; rw [builtinType_eq_fast]; kernel_rfl
theorem entry_split : entryFor table "bytes.split" = some Builtin.«bytes.split» := entryFor_of_tree (by kernel_rfl)
theorem entry_bjoin : entryFor table "bytes.join" = some Builtin.«bytes.join» := entryFor_of_tree (by kernel_rfl)
theorem args_split (a : Value) : argsOk "bytes.split" ⟨[a], []⟩ := by
  unfold argsOk; rw [signature?_of (id := "bytes.split") (n := ['t', 'i', 'l', 'p', 's']) (o := ['s', 'e', 't', 'y', 'b']) (by kernel_rfl) PySem.W.FB.owner_bytes]; kernel_rfl
theorem args_bjoin (a b : Value) : argsOk "bytes.join" ⟨[a, b], []⟩ := by
  unfold argsOk; rw [signature?_of (id := "bytes.join") (n := ['n', 'i', 'o', 'j']) (o := ['s', 'e', 't', 'y', 'b']) (by kernel_rfl) PySem.W.FB.owner_bytes]; kernel_rfl

/-- values that are octets -/
inductive BA : List Value → List (List UInt8) → Prop
  | nil : BA [] []
  | cons (x : List UInt8) (t : Tok) {vs : List Value} {xs : List (List UInt8)} : BA vs xs → BA (.bytes x.toArray t :: vs) (x :: xs)
theorem BA.length {vs : List Value} {xs : List (List UInt8)} (h : BA vs xs) : vs.length = xs.length := by induction h with | nil => rfl | cons _ _ _ ih => simp [ih]
theorem BA.snoc {vs : List Value} {xs : List (List UInt8)} (h : BA vs xs) (x : List UInt8) (t : Tok) : BA (vs ++ [.bytes x.toArray t]) (xs ++ [x]) := by
  induction h with
  | nil => exact .cons _ _ .nil
  | cons y u _ ih => exact .cons y u ih
theorem BA.get {vs : List Value} {xs : List (List UInt8)} (h : BA vs xs) : ∀ {i : Nat} {x : List UInt8}, xs[i]? = some x → ∃ t, vs[i]? = some (.bytes x.toArray t) := by
  induction h with
  | nil => intro i x e; simp at e
  | cons y u _ ih =>
    intro i x e
    cases i with
    | zero => simp at e; subst e; exact ⟨u, rfl⟩
    | succ i => simp at e ⊢; exact ih e
theorem BA.getv {vs : List Value} {xs : List (List UInt8)} (h : BA vs xs) : ∀ {i : Nat} {v : Value}, vs[i]? = some v → ∃ x t, xs[i]? = some x ∧ v = .bytes x.toArray t := by
  induction h with
  | nil => intro i v e; simp at e
  | cons y u _ ih =>
    intro i v e
    cases i with
    | zero => simp at e; subst e; exact ⟨y, u, rfl, rfl⟩
    | succ i => rw [List.getElem?_cons_succ] at e ⊢; exact ih e

abbrev wordsOf (b : List UInt8) : List (List UInt8) := words (b.length + 1) (b.length + 1) b

theorem words_size : ∀ (f l : Nat) (b : List UInt8), ∀ w ∈ words f l b, w.length ≤ b.length
  | 0, _, _, w, h => by simp [words] at h
  | f + 1, l, b, w, h => by
    rw [words] at h
    split at h
    · simp at h
    · rename_i rest _
      have hd : (b.dropWhile isSpace).length ≤ b.length := (List.dropWhile_sublist _).length_le
      split at h
      · rw [List.mem_singleton] at h; subst h; exact hd
      · rcases List.mem_cons.mp h with rfl | h
        · exact Nat.le_trans (List.takeWhile_sublist _).length_le hd
        · exact Nat.le_trans (words_size f _ _ w h) (Nat.le_trans (List.dropWhile_sublist _).length_le hd)
theorem words_len : ∀ (f l : Nat) (b : List UInt8), (words f l b).length ≤ f
  | 0, _, _ => by simp [words]
  | f + 1, l, b => by
    rw [words]
    split
    · simp
    · split
      · simp
      · simp; exact words_len f _ _

theorem words_nil (f l : Nat) : words f l [] = [] := by cases f <;> simp [words]
theorem drop_none {p : UInt8 → Bool} {b : List UInt8} (h : ∀ c ∈ b, p c = false) : b.dropWhile p = b := by
  cases b with
  | nil => rfl
  | cons c r => rw [List.dropWhile_cons_of_neg (by simp [h c (.head _)])]
theorem take_all {p : UInt8 → Bool} : ∀ {b : List UInt8}, (∀ c ∈ b, p c = true) → b.takeWhile p = b ∧ b.dropWhile p = []
  | [], _ => ⟨rfl, rfl⟩
  | c :: r, h => by
    have hc := h c (.head _)
    have ih := take_all (b := r) fun d hd => h d (.tail _ hd)
    rw [List.takeWhile_cons_of_pos hc, List.dropWhile_cons_of_pos hc, ih.1, ih.2]
    exact ⟨rfl, rfl⟩
theorem words_plain {b : List UInt8} (hb : b ≠ []) (h : ∀ c ∈ b, isSpace c = false) : wordsOf b = [b] := by
  unfold wordsOf
  rw [words, drop_none h]
  cases b with
  | nil => exact absurd rfl hb
  | cons c r =>
    have q := take_all (p := (!isSpace ·)) (b := c :: r) fun d hd => by simp [h d hd]
    simp only [q.1, q.2, words_nil]
    rw [if_neg (by simp)]

section
variable {prog : Program} {w : World} {A : Around} {E : Value → Shared → Prop} {s : Shared}
theorem news_wp {M : Model} {Q : List Value → Shared → Prop} : ∀ (ws : List (List UInt8)) (s : Shared), (∀ x ∈ ws, x.length ≤ sizeLine) → (∀ vs k, BA vs ws → Q vs { s with toks := k }) → wpAny M A (ws.mapM fun x => Kind.new .bytes x.toArray) Q E s
  | [], s, _, h => by rw [List.mapM_nil]; exact wpAny_pure (h [] s.toks .nil)
  | x :: r, s, hz, h => by
    rw [List.mapM_cons]
    refine wpAny_bind (wpAny_mkBytes (hb := by rw [List.size_toArray]; exact hz x (.head _)) ?_)
    refine wpAny_bind (news_wp r _ (fun y hy => hz y (.tail _ hy)) fun vs k hv => wpAny_pure ?_)
    exact h _ k (.cons _ _ hv)

theorem split_wp {b : List UInt8} {t : Tok} {Q : Value → Shared → Prop} (hb : b.length < 1000000)
    (h : ∀ vs k, BA vs (wordsOf b) → Q (.ref s.heap.objs.size) { s with heap := s.heap.push (listOf vs.toArray 0), toks := k }) :
    wpAny (model prog w) A (call (.builtin "bytes.split") [.bytes b.toArray t]) Q E s := by
  refine wpAny_call_entry slot_split (typeIs_bytes _ _ _) entry_split ?_ (args_split _)
  unfold Builtin.«bytes.split» splitM
  show wpAny (model prog w) A.in1 (do
    rule "bytes.split.whitespace"
    if decide (b.toArray.size + 1 > 0) && !b.toArray.isEmpty && !b.toArray.any isSpace then return ← ret (← newList [← Kind.same .bytes (.bytes b.toArray t)])
    ret (← newList (← (words (b.toArray.size + 1) (b.toArray.size + 1) b.toArray.toList).mapM fun w => Kind.new .bytes w.toArray))) _ _ _
  refine wpAny_bind (wpAny_rule ?_)
  by_cases hc : (decide (b.toArray.size + 1 > 0) && !b.toArray.isEmpty && !b.toArray.any isSpace) = true
  · rw [if_pos hc]
    have ty : typeOf (.bytes b.toArray t) = pure (.type "bytes") := rfl
    unfold Kind.same
    rw [ty]
    refine wpAny_bind (wpAny_bind (wpAny_pure ?_))
    show wpAny (model prog w) A.in1 (pure (Value.bytes b.toArray t)) _ _ _
    refine wpAny_pure (wpAny_bind (wpAny_newObj_type (wpAny_pure ⟨_, rfl, ?_⟩)))
    have hb' : b ≠ [] := by rintro rfl; simp at hc
    have hs : ∀ c ∈ b, isSpace c = false := by
      simp only [Bool.and_eq_true, Bool.not_eq_true', List.any_toArray] at hc
      intro c hm
      have := hc.2
      rw [List.any_eq_false] at this
      have := this c hm
      simpa using this
    refine h [.bytes b.toArray t] s.toks ?_
    rw [words_plain hb' hs]
    exact .cons _ _ .nil
  · rw [if_neg hc]
    refine wpAny_bind (news_wp _ s (fun x hx => ?_) fun vs k hv => ?_)
    · have := words_size _ _ _ x hx
      rw [sizeLine_eq]
      simp at this
      omega
    · have hl : vs.length ≤ b.length + 1 := by rw [hv.length]; exact words_len _ _ _
      refine wpAny_bind (wpAny_newObj_type (hd := ?_) (wpAny_pure ⟨_, rfl, ?_⟩))
      · exact h vs k hv
      · show vs.toArray.size ≤ sizeLine
        rw [List.size_toArray, sizeLine_eq]; omega

theorem take_eq {id : String} {b : Array UInt8} {t : Tok} : takeBufferQuiet? id (.bytes b t) 0 = pure (some (b, none)) := by
  have e : takeBuffer? id (.bytes b t) 0 = pure (some (b, none)) := by
    unfold takeBuffer?
    rw [KBy.special_eq KBy.look_buffer, KBy.own_buffer]
    show (buffer? id (.bytes b t) (full := (0 : Int) == fullReadOnly) >>= fun r => pure (r.map (·, none))) = _
    have : (buffer? id (.bytes b t) (full := (0 : Int) == fullReadOnly)) = pure (some b) := by
      unfold buffer?
      rw [KBy.special_eq KBy.look_buffer, KBy.own_buffer, KBy.own_release]
      kernel_rfl
    rw [this]
    rfl
  unfold takeBufferQuiet?
  rw [e]
  rfl

/-- octets laid end to end, sep between -/
def joinL (sep : List UInt8) : List (List UInt8) → List UInt8
  | [] => []
  | [x] => x
  | x :: y :: r => x ++ sep ++ joinL sep (y :: r)

theorem joined_aux (sep : Array UInt8) : ∀ (ps : List (Array UInt8)) (i : Nat) (out : Array UInt8), 0 < i →
    (((ps.zipIdx i).foldl (fun (out : Array UInt8) (x : Array UInt8 × Nat) => (if x.2 > 0 then out ++ sep else out) ++ x.1) out)).toList = out.toList ++ (ps.map fun p => sep.toList ++ p.toList).flatten
  | [], _, out, _ => by simp
  | p :: r, i, out, h => by
    rw [List.zipIdx_cons, List.foldl_cons, joined_aux sep r (i + 1) _ (Nat.succ_pos _)]
    simp [h]
theorem joined_eq (sep : List UInt8) : ∀ (xs : List (List UInt8)), joined sep.toArray (xs.map List.toArray) = (joinL sep xs).toArray
  | [] => rfl
  | x :: r => by
    apply Array.toList_inj.mp
    unfold joined
    rw [List.map_cons, List.zipIdx_cons, List.foldl_cons]
    show (((r.map List.toArray).zipIdx 1).foldl (fun (out : Array UInt8) (x : Array UInt8 × Nat) => (if x.2 > 0 then out ++ sep.toArray else out) ++ x.1) (#[] ++ x.toArray)).toList = _
    rw [joined_aux _ _ 1 _ (by decide)]
    have key : ∀ (x : List UInt8) (r : List (List UInt8)), x ++ (r.map fun p => sep ++ p).flatten = joinL sep (x :: r) := by
      intro x r
      induction r generalizing x with
      | nil => simp [joinL]
      | cons y r ih => rw [joinL, ← ih y]; simp
    rw [← key]
    simp
    rfl
theorem joinL_len (sep : List UInt8) : ∀ xs : List (List UInt8), (joinL sep xs).length ≤ (xs.map fun x => x.length + sep.length).sum
  | [] => by simp [joinL]
  | [x] => by simp [joinL]
  | x :: y :: r => by
    have ih := joinL_len sep (y :: r)
    rw [joinL, List.map_cons, List.sum_cons, List.length_append, List.length_append]
    omega

theorem letgo_wp {M : Model} {A : Around} {E : Value → Shared → Prop} {s : Shared} {Q : Unit → Shared → Prop} (h : Q () s) : ∀ (tk : List (Value × Option Value)) (keep : List Value), (∀ p ∈ tk, p.2 = none) → wpAny M A (joinLetGo tk keep) Q E s
  | [], _, _ => wpAny_pure h
  | (x, w) :: rest, keep, hn => by
    have : w = none := hn _ (.head _)
    subst this
    unfold joinLetGo
    exact wpAny_bind (wpAny_letGo (letgo_wp h rest keep fun p hp => hn p (.tail _ hp)))

theorem join_wp {sep : List UInt8} {ts : Tok} {l : Addr} {vs : List Value} {xs : List (List UInt8)} {Q : Value → Shared → Prop} (hl : s.heap.IsList l vs.toArray) (hv : BA vs xs) (hn : xs.length < 1000) (hz : (xs.map fun x => x.length + sep.length).sum < 1000000)
    (h : ∀ t k, Q (.bytes (joinL sep xs).toArray t) { s with toks := k }) :
    wpAny (model prog w) A (call (.builtin "bytes.join") [.bytes sep.toArray ts, .ref l]) Q E s := by
  refine wpAny_call_entry slot_bjoin (typeIs_bytes _ _ _) entry_bjoin ?_ (args_bjoin _ _)
  unfold Builtin.«bytes.join» joinM
  have hself : selfAndOne (s!"{Kind.bytes.name}.join") ⟨[.bytes sep.toArray ts, .ref l], []⟩ = pure (.bytes sep.toArray ts, .ref l) := rfl
  dsimp only
  rw [hself]
  refine wpAny_bind (wpAny_pure ?_)
  dsimp only
  obtain ⟨o, ho, hc, n, hd⟩ := hl
  refine wpAny_bind ?_
  show wpAny (model prog w) A.in1 (joinItems (.ref l)) _ _ _
  unfold joinItems
  refine wpAny_bind (wpAny_typeOf ⟨o, ho, hc⟩ ?_)
  show wpAny (model prog w) A.in1 (pure (Value.ref l)) _ _ _
  refine wpAny_pure (wpAny_bind (wpAny_seqItems ho hd ?_))
  dsimp only
  have hvn := hv.length
  have loop : ∀ (f : Nat → Array (Array UInt8) × List (Value × Option Value) → Sem (ForInStep (Array (Array UInt8) × List (Value × Option Value)))) (F : Array (Array UInt8) × List (Value × Option Value) → Sem Fin),
      (∀ i v x t ps (tk : List (Value × Option Value)), i < vs.length → vs[i]? = some v → xs[i]? = some x → v = .bytes x.toArray t → (∀ p ∈ tk, p.2 = none ∧ p.1.onHeap = false) →
        wpAny (model prog w) A.in1 (f i (ps, tk)) (fun r s' => s' = s ∧ r = .yield (ps.push x.toArray, tk ++ [(v, none)])) E s) →
      (∀ tk : List (Value × Option Value), (∀ p ∈ tk, p.2 = none) → wpAny (model prog w) A.in1 (F ((xs.map List.toArray).toArray, tk)) (fun fin s' => ∃ v, fin = .done (.ret v) ∧ Q v s') E s) →
      wpAny (model prog w) A.in1 (forIn [:vs.toArray.size] (#[], []) f >>= F) (fun fin s' => ∃ v, fin = .done (.ret v) ∧ Q v s') E s := by
    intro f F hf hF
    refine wpAny_bind ?_
    rw [Std.Legacy.Range.forIn_eq_forIn_range']
    simp only [Std.Legacy.Range.size, Nat.sub_zero, Nat.add_sub_cancel, Nat.div_one]
    refine wpAny_forIn_list _ (fun rest st s' => s' = s ∧ ∃ i, i ≤ vs.length ∧ rest = List.range' i (vs.length - i) ∧ st.1 = ((xs.take i).map List.toArray).toArray ∧ ∀ p ∈ st.2, p.2 = none ∧ p.1.onHeap = false) _ ?_ ?_ _ _ ?_
    · rintro x rest ⟨ps, tk⟩ s' ⟨rfl, i, hi, hr, hps, htk⟩
      have hlt : i < vs.length := by
        rcases Nat.lt_or_ge i vs.length with h | h
        · exact h
        · rw [show vs.length - i = 0 by omega] at hr; cases hr
      rw [show vs.length - i = (vs.length - (i + 1)) + 1 by omega, List.range'_succ] at hr
      obtain ⟨rfl, rfl⟩ := List.cons.inj hr
      obtain ⟨y, t, hy, e⟩ := hv.getv (List.getElem?_eq_getElem hlt)
      refine wpAny_mono (hf x _ y t ps tk hlt (List.getElem?_eq_getElem hlt) hy e htk) ?_ fun _ _ e => e
      rintro r s'' ⟨rfl, rfl⟩
      refine ⟨rfl, x + 1, hlt, rfl, ?_, ?_⟩
      · dsimp only at hps ⊢
        rw [hps, List.take_succ, hy]
        simp
      · intro p hp
        rcases List.mem_append.mp hp with hp | hp
        · exact htk p hp
        · rw [List.mem_singleton.mp hp, e]; exact ⟨rfl, rfl⟩
    · rintro ⟨ps, tk⟩ s' ⟨rfl, i, hi, hr, hps, htk⟩
      have : i = vs.length := by
        rcases Nat.lt_or_ge i vs.length with h | h
        · rw [show vs.length - i = (vs.length - (i + 1)) + 1 by omega, List.range'_succ] at hr; cases hr
        · omega
      subst this
      dsimp only at hps htk
      rw [hvn, List.take_length] at hps
      subst hps
      exact hF tk fun p hp => (htk p hp).1
    · exact ⟨rfl, 0, Nat.zero_le _, by simp, by simp, fun p hp => nomatch hp⟩
  have last : ∀ tk : List (Value × Option Value), (∀ p ∈ tk, p.2 = none) → wpAny (model prog w) A.in1 (do
      let sep' ← payload (.bytes sep.toArray ts)
      if tooLong ((xs.map List.toArray).toArray.foldl (fun a b => a + b.size) (sep'.size * ((xs.map List.toArray).toArray.size - 1))) then do
        unsupported "bytes.join:memory"
        let result ← Kind.bytes.new (joined sep' (xs.map List.toArray).toArray.toList)
        holding (result :: tk.flatMap fun x => x.1 :: x.2.toList) point
        joinLetGo tk [result]
        ret result
      else do
        let result ← Kind.bytes.new (joined sep' (xs.map List.toArray).toArray.toList)
        holding (result :: tk.flatMap fun x => x.1 :: x.2.toList) point
        joinLetGo tk [result]
        ret result) (fun fin s' => ∃ v, fin = .done (.ret v) ∧ Q v s') E s := by
    intro tk htk
    refine wpAny_bind ?_
    show wpAny (model prog w) A.in1 (pure sep.toArray) _ _ _
    refine wpAny_pure ?_
    have hsum : ∀ (ys : List (List UInt8)) (a : Nat), (ys.map List.toArray).foldl (fun a b => a + b.size) a = a + (ys.map List.length).sum := by
      intro ys
      induction ys with
      | nil => intro a; simp
      | cons y r ih => intro a; rw [List.map_cons, List.foldl_cons, ih]; simp; omega
    have hsum2 : (xs.map fun x => x.length + sep.length).sum = (xs.map List.length).sum + sep.length * xs.length := by
      clear hsum hv hvn hn hz loop h
      induction xs with
      | nil => simp
      | cons y r ih => simp [ih, Nat.mul_add]; omega
    have hml : sep.length * (xs.length - 1) ≤ sep.length * xs.length := Nat.mul_le_mul_left _ (by omega)
    have hno : tooLong ((xs.map List.toArray).toArray.foldl (fun a b => a + b.size) (sep.toArray.size * ((xs.map List.toArray).toArray.size - 1))) = false := by
      apply KBy.tooLong_not
      rw [List.foldl_toArray, hsum]
      simp only [List.size_toArray, List.length_map]
      omega
    rw [hno]
    simp only [Bool.false_eq_true, if_false]
    rw [joined_eq]
    have hjl := joinL_len sep xs
    refine wpAny_bind (wpAny_mkBytes (hb := by rw [List.size_toArray, sizeLine_eq]; omega) ?_)
    refine wpAny_bind (wpAny_holding (wpAny_point ?_))
    refine wpAny_bind (letgo_wp ?_ tk _ htk)
    exact wpAny_pure ⟨_, rfl, h _ _⟩
  have turn : ∀ (i : Nat) (v : Value) (x : List UInt8) (t : Tok) (tk : List (Value × Option Value)), i < vs.length → vs[i]? = some v → v = .bytes x.toArray t → (∀ p ∈ tk, p.2 = none ∧ p.1.onHeap = false) →
      vs.toArray.getD i .none = .bytes x.toArray t ∧ (tk.any fun x => x.1.onHeap) = false := by
    intro i v x t tk hi e ev htk
    refine ⟨?_, ?_⟩
    · rw [Array.getD_eq_getD_getElem?, List.getElem?_toArray, e, ev]; rfl
    · rw [List.any_eq_false]; intro p hp; rw [(htk p hp).2]; simp
  cases hv with
  | nil =>
    refine loop _ _ ?_ last
    intro i v x t ps tk hi
    exact absurd hi (Nat.not_lt_zero _)
  | cons x t hv1 =>
    cases hv1 with
    | nil =>
      show wpAny (model prog w) A.in1 (typeOf (.bytes x.toArray t) >>= _) _ _ _
      refine wpAny_bind (wpAny_typeOf (typeIs_bytes _ _ _) ?_)
      show wpAny (model prog w) A.in1 (rule "bytes.join.one-item" >>= fun _ => ret _) _ _ _
      refine wpAny_bind (wpAny_rule (wpAny_pure ⟨_, rfl, ?_⟩))
      exact h t s.toks
    | cons y u hv2 =>
      refine loop _ _ ?_ last
      intro i v z t' ps tk hi e1 e2 ev htk
      obtain ⟨g1, g2⟩ := turn i v z t' tk hi e1 ev htk
      refine wpAny_bind (wpAny_seqItems ho hd ?_)
      dsimp only
      rw [g1, g2]
      show wpAny (model prog w) A.in1 (do
        let __x ← holding _ (takeBufferQuiet? _ (.bytes z.toArray t') 0)
        _) _ _ _
      refine wpAny_bind (wpAny_holding ?_)
      rw [take_eq]
      refine wpAny_pure ?_
      dsimp only
      refine wpAny_bind (wpAny_seqItems ho hd ?_)
      dsimp only
      rw [show ((Value.bytes x.toArray t :: Value.bytes y.toArray u :: _).toArray.size != (Value.bytes x.toArray t :: Value.bytes y.toArray u :: _).toArray.size) = false from bne_self_eq_false _]
      refine wpAny_pure ⟨rfl, ?_⟩
      rw [ev]
end
end Mine
end
section
open PySem PySem.W PyProof.Rows PySem.Calls PySem.Spec
namespace Mine
open PySem.Sre

abbrev F7 : List Nat := [70, 76, 65, 71, 83, 32, 40]

theorem getD_app (A B : List Nat) (i : Nat) : (A ++ B).toArray.getD (A.length + i) 0 = B.getD i 0 := by
  rw [Array.getD_eq_getD_getElem?, List.getElem?_toArray, List.getElem?_append_right (by omega), List.getD_eq_getElem?_getD]
  congr 2
  omega
theorem getD_mem {T : List Nat} {j : Nat} (h : j < T.length) : T.toArray.getD j 0 ∈ T := by
  rw [Array.getD_eq_getD_getElem?, List.getElem?_toArray, List.getElem?_eq_getElem h]
  exact List.getElem_mem h
theorem getD_app0 (A : List Nat) (c : Nat) (B : List Nat) : (A ++ c :: B).toArray.getD A.length 0 = c := by
  have := getD_app A (c :: B) 0
  rw [Nat.add_zero] at this
  exact this
theorem getD_not {A B : List Nat} {c j : Nat} (hA : A.length ≤ j) (hj : j < (A ++ B).length) (h : ∀ d ∈ B, d ≠ c) : (A ++ B).toArray.getD j 0 ≠ c := by
  obtain ⟨i, rfl⟩ : ∃ i, j = A.length + i := ⟨j - A.length, by omega⟩
  rw [getD_app]
  rw [List.length_append] at hj
  rw [List.getD_eq_getElem?_getD, List.getElem?_eq_getElem (by omega : i < B.length)]
  exact h _ (List.getElem_mem _)

theorem flags_at (A B : List Nat) : FlagsAt (A ++ (F7 ++ B)).toArray A.length := by
  have e : ∀ i, (A ++ (F7 ++ B)).toArray.getD (A.length + i) 0 = (F7 ++ B).getD i 0 := getD_app A (F7 ++ B)
  exact ⟨by simp, (e 0), (e 1), (e 2), (e 3), (e 4), (e 5), (e 6)⟩

/-- from the end down to the last F -/
theorem scanL (A R : List Nat) (hR : ∀ c ∈ R, c ≠ 70) (mk : Array (Option Nat)) (sn : Sre.Seen) :
    ∃ sn', To (2 * (R.length + 1)) (Sc (A ++ 70 :: R).toArray (A ++ 70 :: R).toArray.size mk sn) (Sc (A ++ 70 :: R).toArray A.length mk sn') := by
  have e : (A ++ 70 :: R).toArray.size = A.length + (R.length + 1) := by simp
  have := scan_all (tx := (A ++ 70 :: R).toArray) (mk := mk) (R.length + 1) A.length sn (fun j h1 h2 h3 => by
    have e2 : A ++ 70 :: R = (A ++ [70]) ++ R := by simp
    rw [e2]
    refine getD_not ?_ ?_ hR
    · simp; omega
    · rw [← e2]; simpa using h3)
  rw [e]
  exact this

structure Found (tx : Array Nat) (k p e : Nat) (mf : Sre.M) : Prop where
  run : ∀ n, k ≤ n → M.runFor n (forMatch fcode tx 1 0 tx.size false false) = mf
  ok : mf.outcome = some .matched
  lm : mf.lastmark = 1
  li : mf.lastindex = 1
  st : mf.start = 0
  m0 : mf.marks.getD 0 none = some p
  m1 : mf.marks.getD 1 none = some e

theorem found_of {tx : Array Nat} {B p n : Nat} {mk : Array (Option Nat)} {sn : Sre.Seen} (hmk : mk.size = 2) (hB : B + 20 < 1000000) (h : To B (forMatch fcode tx 1 0 tx.size false false) (Sc tx p mk sn)) (f : FlagsAt tx p) (hN : tx.size < 1000000) (hn : p + 7 + n < tx.size) (hb : ∀ j, j < n → tx.getD (p + 7 + j) 0 ≠ 41) (he : tx.getD (p + 7 + n) 0 = 41) :
    ∃ k mf, k < 1000000 ∧ Found tx k (p + 7) (p + 7 + n) mf := by
  obtain ⟨sn', a⟩ := hit (mk := mk) (sn := sn) f hN hn hb he
  obtain ⟨k, hk, e⟩ := h.trans a
  refine ⟨k, { St tx 5 p (p + 7 + n + 1) ((mk.setIfInBounds 0 (some (p + 7))).setIfInBounds 1 (some (p + 7 + n))) 1 1 [] 0 (some true) sn' with outcome := some .matched }, by omega, fun m hm => ?_, rfl, rfl, rfl, rfl, ?_, ?_⟩
  · rw [show m = k + (m - k) by omega, e]
    cases (m - k) with
    | zero => rfl
    | succ _ => rfl
  · show (((mk.setIfInBounds 0 _).setIfInBounds 1 _)).getD 0 none = _
    simp [Array.getD_eq_getD_getElem?, hmk, Array.getElem?_setIfInBounds]
  · show (((mk.setIfInBounds 0 _).setIfInBounds 1 _)).getD 1 none = _
    simp [Array.getD_eq_getD_getElem?, hmk, Array.getElem?_setIfInBounds]

theorem lags : ∀ c ∈ [76, 65, 71, 83, 32, 40], c ≠ 70 := by decide
theorem sp2 : ∀ c ∈ [41, 32], c ≠ 70 := by decide
theorem runA (A body post : List Nat) (hz : A.length + body.length + post.length < 100000) (hnl : ∀ c ∈ A ++ (F7 ++ (body ++ 41 :: post)), c ≠ 10) (hb : ∀ c ∈ body, c ≠ 70 ∧ c ≠ 41) (hp : ∀ c ∈ post, c ≠ 70) :
    ∃ k mf, k < 1000000 ∧ Found (A ++ (F7 ++ (body ++ 41 :: post))).toArray k (A.length + 7) (A.length + 7 + body.length) mf := by
  have hsz : (A ++ (F7 ++ (body ++ 41 :: post))).toArray.size = A.length + 7 + body.length + 1 + post.length := by simp; omega
  obtain ⟨s1, a1⟩ := begin_ok (tx := (A ++ (F7 ++ (body ++ 41 :: post))).toArray) (by omega) (by omega) (fun j hj => hnl _ (getD_mem (by simpa using hj)))
  obtain ⟨s2, a2⟩ := scanL A ([76, 65, 71, 83, 32, 40] ++ (body ++ 41 :: post)) (by
    intro c hc
    rcases List.mem_append.mp hc with hc | hc
    · exact lags c hc
    · rcases List.mem_append.mp hc with hc | hc
      · exact (hb c hc).1
      · rcases List.mem_cons.mp hc with rfl | hc
        · decide
        · exact hp c hc) (Array.replicate 2 none) s1
  refine found_of (by simp) ?_ (a1.trans a2) (flags_at A _) (by omega) (by omega) ?_ ?_
  · simp; omega
  · intro j hj
    have e : A ++ (F7 ++ (body ++ 41 :: post)) = (A ++ F7) ++ (body ++ 41 :: post) := by simp
    rw [e, show A.length + 7 + j = (A ++ F7).length + j by simp, getD_app, List.getD_eq_getElem?_getD, List.getElem?_append_left hj, List.getElem?_eq_getElem hj]
    exact (hb _ (List.getElem_mem _)).2
  · have e : A ++ (F7 ++ (body ++ 41 :: post)) = (A ++ F7 ++ body) ++ 41 :: post := by simp
    rw [e, show A.length + 7 + body.length = (A ++ F7 ++ body).length by simp; omega]
    exact getD_app0 _ _ _

theorem runB (A body : List Nat) (hz : A.length + body.length < 100000) (hnl : ∀ c ∈ A ++ (F7 ++ (body ++ 41 :: 32 :: (F7 ++ [98]))), c ≠ 10) (hb : ∀ c ∈ body, c ≠ 70 ∧ c ≠ 41) :
    ∃ k mf, k < 1000000 ∧ Found (A ++ (F7 ++ (body ++ 41 :: 32 :: (F7 ++ [98])))).toArray k (A.length + 7) (A.length + 7 + body.length) mf := by
  have hsz : (A ++ (F7 ++ (body ++ 41 :: 32 :: (F7 ++ [98])))).toArray.size = A.length + body.length + 17 := by simp; omega
  have e0 : A ++ (F7 ++ (body ++ 41 :: 32 :: (F7 ++ [98]))) = (A ++ F7 ++ body ++ [41, 32]) ++ 70 :: [76, 65, 71, 83, 32, 40, 98] := by simp
  have e1 : A ++ (F7 ++ (body ++ 41 :: 32 :: (F7 ++ [98]))) = (A ++ F7 ++ body ++ [41, 32]) ++ (F7 ++ [98]) := by simp
  have hl0 : (A ++ F7 ++ body ++ [41, 32]).length = A.length + body.length + 8 + 1 := by simp; omega
  obtain ⟨s1, a1⟩ := begin_ok (tx := (A ++ (F7 ++ (body ++ 41 :: 32 :: (F7 ++ [98])))).toArray) (by omega) (by omega) (fun j hj => hnl _ (getD_mem (by simpa using hj)))
  obtain ⟨s2, a2⟩ := scanL (A ++ F7 ++ body ++ [41, 32]) [76, 65, 71, 83, 32, 40, 98] (by decide) (Array.replicate 2 none) s1
  rw [← e0, hl0] at a2
  have fl : FlagsAt (A ++ (F7 ++ (body ++ 41 :: 32 :: (F7 ++ [98])))).toArray (A.length + body.length + 8 + 1) := by
    rw [e1, ← hl0]; exact flags_at _ _
  obtain ⟨s3, mk3, hmk3, a3⟩ := miss1 (mk := Array.replicate 2 none) (sn := s2) fl (by omega) (by omega) (by
    rw [show A.length + body.length + 8 + 8 = (A ++ F7 ++ body ++ [41, 32]).length + 7 by omega, e1, getD_app]; decide)
  obtain ⟨s4, a4⟩ := scan_all (tx := (A ++ (F7 ++ (body ++ 41 :: 32 :: (F7 ++ [98])))).toArray) (mk := mk3) (body.length + 8) A.length s3 (fun j h1 h2 h3 => by
    have e2 : A ++ (F7 ++ (body ++ 41 :: 32 :: (F7 ++ [98]))) = (A ++ [70] ++ ([76, 65, 71, 83, 32, 40] ++ body ++ [41, 32])) ++ (F7 ++ [98]) := by simp
    rw [e2, Array.getD_eq_getD_getElem?, List.getElem?_toArray, List.getElem?_append_left (by simp; omega), ← List.getElem?_toArray, ← Array.getD_eq_getD_getElem?]
    refine getD_not (by simp; omega) (by simp; omega) ?_
    intro c hc
    rcases List.mem_append.mp hc with hc | hc
    · rcases List.mem_append.mp hc with hc | hc
      · exact lags c hc
      · exact (hb c hc).1
    · exact sp2 c hc)
  rw [show A.length + (body.length + 8) = A.length + body.length + 8 by omega] at a4
  refine found_of (by rw [hmk3]; simp) ?_ (((a1.trans a2).trans a3).trans a4) (flags_at A _) (by omega) (by omega) ?_ ?_
  · simp; omega
  · intro j hj
    have e : A ++ (F7 ++ (body ++ 41 :: 32 :: (F7 ++ [98]))) = (A ++ F7) ++ (body ++ 41 :: 32 :: (F7 ++ [98])) := by simp
    rw [e, show A.length + 7 + j = (A ++ F7).length + j by simp, getD_app, List.getD_eq_getElem?_getD, List.getElem?_append_left hj, List.getElem?_eq_getElem hj]
    exact (hb _ (List.getElem_mem _)).2
  · have e : A ++ (F7 ++ (body ++ 41 :: 32 :: (F7 ++ [98]))) = (A ++ F7 ++ body) ++ 41 :: (32 :: (F7 ++ [98])) := by simp
    rw [e, show A.length + 7 + body.length = (A ++ F7 ++ body).length by simp; omega]
    exact getD_app0 _ _ _
end Mine
end
section
theorem Mine.offPF : True := by
  w_top off
  trivial
open PySem PySem.W PyProof.Rows PySem.Calls PySem.Spec
namespace Mine
theorem bool_mat : typeLookup (.type "re.Match") "__bool__" = pure none := by rw [typeLookup_type, builtinLookup_eq_fast]; kernel_rfl
theorem len_mat : typeLookup (.type "re.Match") "__len__" = pure none := by rw [typeLookup_type, builtinLookup_eq_fast]; kernel_rfl
theorem truthy_mat {M : Model} {A : Around} {E : Value → Shared → Prop} {s : Shared} {a : Addr} {Q : Bool → Shared → Prop} (hT : s.TypeIs (.ref a) "re.Match") (h : Q true s) : wpAny M A (truthy (.ref a)) Q E s := by
  unfold truthy
  show wpAny M A (callSpecial? (.ref a) "__bool__" >>= _) _ _ _
  unfold callSpecial?
  refine wpAny_bind (wpAny_bind (wpAny_specialOf hT bool_mat ?_))
  refine wpAny_pure ?_
  refine wpAny_bind (wpAny_specialOf hT len_mat ?_)
  exact wpAny_pure h
theorem fr_push {g h : Heap} {L : Addr} {m : Str → Option Value} (F : Fr g L h m) (o : Obj) : Fr g L (h.push o) m := fr_after (mu := []) F (fun _ _ _ e => Heap.get?_push_of_some _ e) (fun _ h => nomatch h) (fun h => nomatch h)
theorem news_push {g h : Heap} {L : Addr} {m : Str → Option Value} {news : List (Addr × Obj)} (F : Fr g L h m) (N : News g L h news) (o : Obj) (hf : o.isFreed = false := by rfl) : News g L (h.push o) ((h.objs.size, o) :: news) := by
  have hL : @LT.lt Nat _ L h.objs.size := F.ns.lt
  have hg : @LE.le Nat _ g.objs.size L := F.above
  intro p hp
  rcases List.mem_cons.mp hp with rfl | hp
  · exact ⟨Heap.get?_push_size _ hf, Ne.symm (Nat.ne_of_lt hL), Heap.get?_none_of_le (by show g.objs.size ≤ h.objs.size; omega)⟩
  · exact ⟨Heap.get?_push_of_some _ (N p hp).1, (N p hp).2⟩

local macro_rules | `(tactic| walk_at "call ref") => `(tactic| refine Mine.hold ?_)
local macro_rules | `(tactic| walk_at "getMethod ref") => `(tactic| refine Mine.hold ?_)
local macro_rules | `(tactic| walk_at "getMethod bytes") => `(tactic| refine Mine.hold ?_)
local macro_rules | `(tactic| walk_at "call builtin:re.Pattern.match") => `(tactic| refine Mine.hold ?_)
local macro_rules | `(tactic| walk_at "call builtin:re.Match.group") => `(tactic| refine Mine.hold ?_)
local macro_rules | `(tactic| walk_at "call builtin:bytes.split") => `(tactic| refine Mine.hold ?_)
local macro_rules | `(tactic| walk_at "truthy ref") => `(tactic| refine Mine.hold ?_)
local macro_rules | `(tactic| walk_at "call type:tuple") => `(tactic| refine Mine.hold ?_)
theorem fillP : ∀ w : World, (hd.heap_39 w.params) = (hd.heap_39 w.params) ∧ PySem.Challenge.rw_nq0081_01.row.prog = PySem.Challenge.rw_nq0081_01.row.prog := by
  k_fill
  exact fun _ => ⟨rfl, rfl⟩
theorem parse_spec : ∀ (w : World) (dp un : Nat) (fr : Option (List Env)) (gd : Option (List Code)) (s : Shared) (Q E : Value → Shared → Prop) (l : List UInt8) (t : Tok) (k p e : Nat) (mf : Sre.M),
    Gr w s.heap → dp + 4 < recursionLimit → un + 50 < cLine → l.length < 100000 → k < 1000000 → Found (l.map (·.toNat)).toArray k p e mf → p ≤ e →
    (∀ h' tk T vs, Ext [] s.heap h' → s.heap.get? T = none → h'.get? T = some { cls := .type "tuple", data := .seq vs.toArray } → BA vs (wordsOf (l.toArray.extract p e).toList) → Q (.ref T) { s with heap := h', toks := tk }) →
    wpAny (model PySem.Challenge.rw_nq0081_01.row.prog w) (Around.mk none dp fr gd un) (call (.ref 50) [.bytes l.toArray t]) Q E s := by
  intro w dp un fr gd s Q E l t k p e mf g hdp hun hl hk hF hpe hQ
  refine' enter [] [] [(Str.ofString "resp", .bytes l.toArray t)] g ?hn ?ho ?hcd ?room ?bind ?loc ?c2 ?c3 ?c4 ?c5 ?_
  case hn => intro q hq; cases hq
  case ho => k_is
  case hcd => k_is
  case room => omega
  case bind => exact rfl
  case loc => exact locs rfl
  case c2 => exact rfl
  case c3 => exact rfl
  case c4 => exact rfl
  case c5 => decide
  intro g0 L h1 tk1 mean mg mb hext hsub hL X T F N
  obtain ⟨p36, p35, p33⟩ := pat_at X
  k_steps
  refine Hold.of ?_
  refine getMethod_builtin (T := "re.Pattern") ⟨_, F.keep _ _ p36, rfl⟩ plainAttrs_pat slot_match type_match (fun a ea => by cases ea; exact ⟨_, F.keep _ _ p36, rfl⟩) ?_
  k_steps
  refine Hold.of ?_
  have hmp : l.toArray.map (·.toNat) = (l.map (·.toNat)).toArray := by simp
  refine match_wp (F.keep _ _ p36) (F.keep _ _ p35) hk (by simp; omega) (by rw [hmp]; have := hF.run; simpa using this) hF.ok hF.lm hF.li hF.st hF.m0 hF.m1 hpe ?_
  have F2 := fr_push (fr_push F (spanObj mf.handed p e)) (matObj l.toArray t h1.objs.size l.toArray.size)
  have N2 := news_push (fr_push F (spanObj mf.handed p e)) (news_push F N (spanObj mf.handed p e)) (matObj l.toArray t h1.objs.size l.toArray.size)
  rw [show (h1.push (spanObj mf.handed p e)).objs.size = h1.objs.size + 1 from Heap.size_push _ _] at N2
  clear F N
  generalize (h1.push (spanObj mf.handed p e)).push (matObj l.toArray t h1.objs.size l.toArray.size) = h2 at F2 N2 ⊢
  generalize h1.objs.size = a1 at N2 ⊢
  dsimp only
  k_steps
  rename Fr _ _ _ _ => F3
  rename News _ _ _ _ => N3
  refine Hold.of ?_
  refine truthy_mat ⟨_, (N3 _ (.head _)).1, rfl⟩ ?_
  simp only [Bool.not_true, Bool.false_eq_true, if_false]
  k_steps
  refine Hold.of ?_
  refine getMethod_builtin (T := "re.Match") ⟨_, (N3 _ (.head _)).1, rfl⟩ plainAttrs_mat slot_group type_group (fun a ea => by cases ea; exact ⟨_, (N3 _ (.head _)).1, rfl⟩) ?_
  k_steps
  refine Hold.of ?_
  refine group_wp (N3 _ (.head _)).1 (N3 _ (.tail _ (.head _))).1 (F3.keep _ _ p36) (F3.keep _ _ p33) (by simp; omega) ?_
  intro tg kg
  dsimp only
  k_steps
  refine Hold.of ?_
  refine getMethod_builtin (T := "bytes") (typeIs_bytes _ _ _) FB.plainAttrs_bytes slot_split type_split (fun a ea => nomatch ea) ?_
  k_steps
  refine Hold.of ?_
  have hex : l.toArray.extract p e = (l.toArray.extract p e).toList.toArray := by simp
  have hexl : (l.toArray.extract p e).toList.length < 100000 := by
    rw [Array.length_toList, Array.size_extract]; simp; omega
  rw [hex]
  refine split_wp (by omega) ?_
  intro vs ks hv
  have hvl : vs.length ≤ 100000 := by
    rw [hv.length]; exact Nat.le_trans (words_len _ _ _) (by omega)
  have F4 := fr_push F3 (listOf vs.toArray 0)
  have N4 := news_push F3 N3 (listOf vs.toArray 0)
  clear F3 N3
  dsimp only at F4 N4 ⊢
  generalize (Heap.push _ (listOf vs.toArray 0)) = h4 at F4 N4 ⊢
  generalize (Array.size (Heap.objs _)) = a4 at N4 ⊢
  k_steps
  refine Hold.of ?_
  refine tuple_ofL F4 N4 ⟨_, (N4 _ (.head _)).1, rfl, _, rfl⟩ ?_ (by rw [sizeLine_eq]; omega)
  intro D h5 F5 N5 hk5
  have nd := (N5 _ (.head _))
  refine hQ _ _ D vs (fun b o n e => F5.keep b o (hext b o n e)) ?_ nd.1 hv
  cases hs : s.heap.get? D with
  | none => rfl
  | some o => exact absurd (hext D o (fun h => nomatch h) hs) (by rw [nd.2.2]; exact fun h => nomatch h)
end Mine
end
section
theorem Mine.offRG : True := by
  w_top off
  trivial
open PySem PySem.W PyProof.Rows PySem.Calls PySem.Spec
namespace Mine

/-- the nine flags -/
def nms : List (List UInt8) := [[92, 83, 101, 101, 110], [92, 65, 110, 115, 119, 101, 114, 101, 100], [97], [92, 68, 114, 97, 102, 116], [83, 101, 101, 110], [98], [92, 82, 101, 99, 101, 110, 116], [99], [92, 68, 101, 108, 101, 116, 101, 100]]

theorem nms_inj {kk : Nat} {x : List UInt8} (h : nms[kk]? = some x) (hk : kk < 9) : ∀ i, i < kk → nms[i]? ≠ some x := by
  intro i hi e
  rw [← h] at e
  have all : ∀ a : Fin 9, ∀ b : Fin 9, a < b → nms[a.val]? ≠ nms[b.val]? := by decide +kernel
  exact all ⟨i, by omega⟩ ⟨kk, hk⟩ hi e

theorem sum_cast (f : Nat → Nat) : ∀ ks : List Nat, (ks.map fun k => ((f k : Nat) : Int)).sum = (((ks.map f).sum : Nat) : Int)
  | [] => rfl
  | k :: r => by rw [List.map_cons, List.sum_cons, sum_cast f r, List.map_cons, List.sum_cons]; omega

section
variable {prog : Program} {w : World} {A : Around} {E : Value → Shared → Prop} {s : Shared}
def isB (x : List UInt8) : Value → Bool
  | .bytes b _ => decide (b.toList = x)
  | _ => false
theorem eq_bytes (x y : List UInt8) (t u : Tok) : MeetsSeq.EqGives (.bytes y.toArray u) (.bytes x.toArray t) (isB x (.bytes y.toArray u)) := by
  unfold MeetsSeq.EqGives
  intros
  refine eqBool_bytes ?_
  assumption
theorem index_wp {D : Addr} {vs : List Value} {xs : List (List UInt8)} {n j : Nat} {x : List UInt8} {t : Tok} {Q : Value → Shared → Prop} (hD : s.heap.get? D = some (listOf vs.toArray n)) (hv : BA vs xs) (hj : xs[j]? = some x) (hno : ∀ i, i < j → xs[i]? ≠ some x) (hn : xs.length < 1000)
    (h : Q (.int (j : Nat) s.toks) { s with toks := s.toks + 1 }) : wpAny (model prog w) A (call (.builtin "list.index") [.ref D, .bytes x.toArray t]) Q E s := by
  have hl := hv.length
  have hjl : j < xs.length := by
    rcases Nat.lt_or_ge j xs.length with h | h
    · exact h
    · rw [List.getElem?_eq_none h] at hj; cases hj
  refine call_meets PySem.F.slot_list_index ⟨_, hD, rfl⟩ PySem.F.entry_list_index (PySem.F.args_list_index_2 _ _)
    (MeetsSeq.list_index D vs.toArray n (.bytes x.toArray t) (isB x) ?_ j (by simp; omega) (by omega) ?_ ?_) ⟨hD, h⟩
  · intro y hy
    rw [List.mem_toArray] at hy
    obtain ⟨i, hi, rfl⟩ := List.mem_iff_getElem.mp hy
    obtain ⟨z, u, hz, e⟩ := hv.getv (List.getElem?_eq_getElem hi)
    rw [e]
    exact eq_bytes x z t u
  · obtain ⟨u, e⟩ := hv.get hj
    have e2 : vs.toArray[j]'(by simp; omega) = .bytes x.toArray u := by
      have := List.getElem?_eq_some_iff.mp e
      obtain ⟨_, q⟩ := this
      simpa using q
    rw [e2]
    exact decide_eq_true rfl
  · intro i hi hlt
    have hi' : i < vs.length := by simpa using hi
    obtain ⟨z, u, hz, e⟩ := hv.getv (List.getElem?_eq_getElem hi')
    have e2 : vs.toArray[i]'hi = .bytes z.toArray u := by simpa using e
    rw [e2]
    refine decide_eq_false ?_
    intro e3
    have e4 : z = x := e3
    rw [e4] at hz
    exact hno i hlt hz
end

local macro_rules | `(tactic| walk_at "call ref") => `(tactic| refine Mine.hold ?_)
local macro_rules | `(tactic| walk_at "eval ListComp") => `(tactic| refine Mine.hold ?_)
local macro_rules | `(tactic| walk_at "pyIter ref") => `(tactic| refine Mine.hold ?_)
local macro_rules | `(tactic| walk_at "call builtin:list.index") => `(tactic| refine Mine.hold ?_)
local macro_rules | `(tactic| walk_at "call builtin:sum") => `(tactic| refine Mine.hold ?_)
theorem fillR : ∀ w : World, (hd.heap_39 w.params) = (hd.heap_39 w.params) ∧ PySem.Challenge.rw_nq0081_01.row.prog = PySem.Challenge.rw_nq0081_01.row.prog := by
  k_fill
  exact fun _ => ⟨rfl, rfl⟩
theorem rights_spec : ∀ (w : World) (dp un : Nat) (fr : Option (List Env)) (gd : Option (List Code)) (s : Shared) (Q E : Value → Shared → Prop) (D : Addr) (vs : List Value) (ks : List Nat),
    Gr w s.heap → dp + 4 < recursionLimit → un + 50 < cLine → s.heap.get? D = some { cls := .type "tuple", data := .seq vs.toArray } → BA vs (ks.map fun k => nms.getD k []) → (∀ k ∈ ks, k < 9) → ks.length < 1000 →
    (∀ h' tk t', Ext [] s.heap h' → Q (.int ((ks.map fun k => 2 ^ (8 - k)).sum : Nat) t') { s with heap := h', toks := tk }) →
    wpAny (model PySem.Challenge.rw_nq0081_01.row.prog w) (Around.mk none dp fr gd un) (call (.ref 135) [.ref D]) Q E s := by
  intro w dp un fr gd s Q E D vs ks g hdp hun hD hv hks hlen hQ
  refine' enterC [] [] [(Str.ofString "flags", .ref D)] g ?hn ?ho ?hcd ?room ?bind ?kin ?nd ?c2 ?c3 ?c4 ?_
  case hn => intro q hq; cases hq
  case ho => k_is
  case hcd => k_is
  case room => omega
  case bind => exact rfl
  case kin => exact rfl
  case nd => decide +kernel
  case c2 => exact rfl
  case c3 => exact rfl
  case c4 => exact rfl
  intro g0 L h1 tk1 cells mean mg mb hext hsub hL X T F N Y
  k_cells Y
  simp only [List.cons_append, List.nil_append] at N
  rename_i o1 d1
  replace d1 : o1.data = .cell none := d1
  k_steps
  refine Hold.of ?_
  refine comp_start (cl := [(Str.ofString "names", L + 1)]) (by with_unfolding_all rfl) rfl (by decide) ?_
  k_steps
  rename Fr _ _ _ _ => F2
  rename News _ _ _ _ => N2
  rename Obj.data _ = Data.cell (some _) => d2
  rename_i l2 h20 hll h2 o2
  refine Hold.of ?_
  obtain ⟨nv, hnv, N3⟩ : ∃ nv : List Value, BA nv nms ∧ News g0 L h2 [(l2, listOf nv.toArray 0), (L + 1, o2)] := by
    refine ⟨_, ?_, N2⟩
    exact .cons _ _ (.cons _ _ (.cons _ _ (.cons _ _ (.cons _ _ (.cons _ _ (.cons _ _ (.cons _ _ (.cons _ _ .nil))))))))
  clear N2
  have hDg : g0.get? D = some { cls := .type "tuple", data := .seq vs.toArray } := hext _ _ (fun h => nomatch h) hD
  have hDs : @LT.lt Nat _ D s.heap.objs.size := Heap.lt_size hD
  have hL' : @LE.le Nat _ s.heap.objs.size L := hL
  have hvl : vs.length = ks.length := by rw [hv.length, List.length_map]
  refine src_tup rfl ⟨_, F2.keep _ _ hDg, rfl, _, rfl⟩ (by intro e; rw [e] at hDs; omega) F2 N3 (fun p hp e => by have := (N3 p hp).2.2; rw [e, hDg] at this; cases this) ?_
  intro I h3 hk3 S
  rw [List.size_toArray, hvl] at S
  refine compEval S (fun i ys nw => nw = [(l2, listOf nv.toArray 0), (L + 1, o2)] ∧ IntsAre ys ((ks.take i).map fun k => ((2 ^ (8 - k) : Nat) : Int))) (by decide) rfl rfl (by rw [sizeLine_eq]; omega) ⟨rfl, .nil⟩ (CompTurn.of ?_) ?_
  · intro C fp i v ys m2 news1 h6 tk6 own oC hi hP hJ hyl hnf hown hCf hnone hns hmx F6 N6
    obtain ⟨rfl, hI⟩ := hJ
    have hP' : vs[i]? = some v := by simpa using hP
    obtain ⟨x, tv, hx, rfl⟩ := hv.getv hP'
    have hki : ks[i]? = some ks[i] := List.getElem?_eq_getElem hi
    rw [List.getElem?_map, hki] at hx
    have hk9 : ks[i] < 9 := hks _ (List.getElem_mem hi)
    generalize ks[i] = kk at hx hki hk9
    have hx' : x = nms.getD kk [] := by simpa using hx.symm
    have hnk : nms[kk]? = some x := by
      rw [hx', List.getD_eq_getElem?_getD]
      have : kk < nms.length := hk9
      rw [List.getElem?_eq_getElem this]; rfl
    refine tests_nil ?_
    simp only [if_true, List.cons_append, List.nil_append] at N6 ⊢
    k_steps
    refine Hold.of ?_
    refine index_wp (N6 _ (.head _)).1 hnv hnk (nms_inj hnk hk9) (by decide) ?_
    dsimp only
    k_steps
    refine ⟨_, _, _, rfl, F6, (fun p hp => N6 p ?_), hnf, rfl, ?_⟩
    · rcases List.mem_append.mp hp with hp | hp
      · rcases List.mem_cons.mp hp with rfl | hp
        · exact .head _
        · rw [List.mem_singleton.mp hp]; exact .tail _ (.head _)
      · exact .tail _ (.tail _ (.tail _ hp))
    · rw [List.take_add_one, hki, List.map_append]
      refine intsAre_append hI ?_
      rw [show ((2 : Int) ^ (8 - (kk : Int)).toNat) = ((2 ^ (8 - kk) : Nat) : Int) by rw [show (8 - (kk : Int)).toNat = 8 - kk by omega, Int.natCast_pow]; rfl]
      exact .cons _ _ .nil
  · intro D2 nn ys news1 h6 tk6 hJ hksD hkD hnD F6 N6
    obtain ⟨rfl, hI⟩ := hJ
    k_steps
    refine Hold.of ?_
    rw [List.take_length] at hI
    refine sumK rfl F6 N6 ⟨_, (N6 _ (.head _)).1, rfl, _, rfl⟩ hI ?_
    intro h7 tk7 t7 F7 N7
    rw [show (ks.map fun k => ((2 ^ (8 - k) : Nat) : Int)).sum = (((ks.map fun k => 2 ^ (8 - k)).sum : Nat) : Int) from sum_cast _ _]
    exact hQ _ _ _ fun b o n e => F7.keep b o (hext b o n e)
end Mine
end
section
theorem Mine.offAN : True := by
  w_top off
  trivial
open PySem PySem.W PyProof.Rows PySem.Calls PySem.Spec
namespace Mine

/-- the places that a number's last nine binary places tell -/
def sel (x i : Nat) : List Nat := (List.range i).filter fun k => x / 2 ^ (8 - k) % 2 == 1
def flagsOf (x : Nat) : List (List UInt8) := (sel x 9).map fun k => nms.getD k []
def low9 (n : Int) : Nat := (n.fmod 512).toNat
theorem low9_lt (n : Int) : low9 n < 512 := by
  unfold low9
  rw [Int.fmod_eq_emod_of_nonneg _ (by decide)]
  omega

def ansP0 : List UInt8 := [42, 32, 49, 32, 70, 69, 84, 67, 72, 32, 40, 88, 32, 70, 76, 65, 71, 83, 32, 40, 92, 83, 101, 101, 110, 32, 97, 41, 32, 70, 76, 65, 71, 83, 32, 40]
def ansP1 : List UInt8 := [42, 32, 49, 32, 70, 69, 84, 67, 72, 32, 40, 70, 76, 65, 71, 83, 32, 40]
def ansS : List UInt8 := [41, 32, 70, 76, 65, 71, 83, 32, 40, 98]
/-- what _law_answer builds -/
def ansB (n : Int) : List UInt8 :=
  if (n.fdiv 512).fmod 3 = 0 then ansP0 ++ joinL [32] (flagsOf (low9 n)) ++ [41, 41]
  else if (n.fdiv 512).fmod 3 = 1 then ansP1 ++ joinL [32, 32] (flagsOf (low9 n)) ++ ansS
  else ansP1 ++ joinL [9] (flagsOf (low9 n)) ++ [41, 41]

theorem sel_succ (x i : Nat) : sel x (i + 1) = sel x i ++ if x / 2 ^ (8 - i) % 2 = 1 then [i] else [] := by
  unfold sel
  rw [List.range_succ, List.filter_append]
  congr 1
  by_cases h : x / 2 ^ (8 - i) % 2 = 1 <;> simp [h]
theorem bit_eq (n : Int) (i : Nat) (hi : i < 9) : (n.fdiv (2 ^ (8 - (i : Int)).toNat)).fmod 2 = ((low9 n / 2 ^ (8 - i) % 2 : Nat) : Int) := by
  unfold low9
  rw [Int.fmod_eq_emod_of_nonneg _ (by decide), Int.fmod_eq_emod_of_nonneg _ (by decide)]
  have : i = 0 ∨ i = 1 ∨ i = 2 ∨ i = 3 ∨ i = 4 ∨ i = 5 ∨ i = 6 ∨ i = 7 ∨ i = 8 := by omega
  rcases this with rfl | rfl | rfl | rfl | rfl | rfl | rfl | rfl | rfl
  · show (n.fdiv 256) % 2 = (((n % 512).toNat / 256 % 2 : Nat) : Int)
    rw [Int.fdiv_eq_ediv_of_nonneg _ (by decide)]
    omega
  · show (n.fdiv 128) % 2 = (((n % 512).toNat / 128 % 2 : Nat) : Int)
    rw [Int.fdiv_eq_ediv_of_nonneg _ (by decide)]
    omega
  · show (n.fdiv 64) % 2 = (((n % 512).toNat / 64 % 2 : Nat) : Int)
    rw [Int.fdiv_eq_ediv_of_nonneg _ (by decide)]
    omega
  · show (n.fdiv 32) % 2 = (((n % 512).toNat / 32 % 2 : Nat) : Int)
    rw [Int.fdiv_eq_ediv_of_nonneg _ (by decide)]
    omega
  · show (n.fdiv 16) % 2 = (((n % 512).toNat / 16 % 2 : Nat) : Int)
    rw [Int.fdiv_eq_ediv_of_nonneg _ (by decide)]
    omega
  · show (n.fdiv 8) % 2 = (((n % 512).toNat / 8 % 2 : Nat) : Int)
    rw [Int.fdiv_eq_ediv_of_nonneg _ (by decide)]
    omega
  · show (n.fdiv 4) % 2 = (((n % 512).toNat / 4 % 2 : Nat) : Int)
    rw [Int.fdiv_eq_ediv_of_nonneg _ (by decide)]
    omega
  · show (n.fdiv 2) % 2 = (((n % 512).toNat / 2 % 2 : Nat) : Int)
    rw [Int.fdiv_eq_ediv_of_nonneg _ (by decide)]
    omega
  · show (n.fdiv 1) % 2 = (((n % 512).toNat / 1 % 2 : Nat) : Int)
    rw [Int.fdiv_eq_ediv_of_nonneg _ (by decide)]
    omega
theorem nms_len (k : Nat) : (nms.getD k []).length ≤ 9 := by
  by_cases h : k < 9
  · have all : ∀ a : Fin 9, (nms.getD a.val []).length ≤ 9 := by decide +kernel
    exact all ⟨k, h⟩
  · rw [List.getD_eq_getElem?_getD, List.getElem?_eq_none (by show 9 ≤ k; omega)]; decide
theorem flags_len (x : Nat) : (flagsOf x).length ≤ 9 := by
  unfold flagsOf sel
  rw [List.length_map]
  exact Nat.le_trans (List.length_filter_le _ _) (by simp)
theorem flags_sum (x c : Nat) : ((flagsOf x).map fun y => y.length + c).sum ≤ 9 * (9 + c) := by
  have h : ∀ ks : List Nat, ((ks.map fun k => nms.getD k []).map fun y => y.length + c).sum ≤ ks.length * (9 + c) := by
    intro ks
    induction ks with
    | nil => simp
    | cons k r ih =>
      have := nms_len k
      rw [List.map_cons, List.map_cons, List.sum_cons, List.length_cons, Nat.add_mul]
      omega
  refine Nat.le_trans (h _) (Nat.mul_le_mul_right _ ?_)
  have := flags_len x
  unfold flagsOf at this
  rwa [List.length_map] at this

local macro_rules | `(tactic| walk_at "call ref") => `(tactic| refine Mine.hold ?_)
local macro_rules | `(tactic| walk_at "eval ListComp") => `(tactic| refine Mine.hold ?_)
local macro_rules | `(tactic| walk_at "exec Assign cons ListComp") => `(tactic| refine Mine.hold ?_)
local macro_rules | `(tactic| walk_at "pyIter ref") => `(tactic| refine Mine.hold ?_)
local macro_rules | `(tactic| walk_at "call builtin:bytes.join") => `(tactic| refine Mine.hold ?_)
local macro_rules | `(tactic| walk_at "binaryOp Add bytes bytes") => `(tactic| refine Mine.hold ?_)
local macro_rules | `(tactic| walk_at "getMethod bytes") => `(tactic| refine Mine.hold ?_)
theorem mem_skip {a b c d p : Addr × Obj} {own : List (Addr × Obj)} (h : p ∈ [a, b, c] ++ own) : p ∈ a :: b :: c :: d :: own := by
  simp only [List.mem_append, List.mem_cons, List.not_mem_nil, or_false] at h ⊢
  rcases h with (h | h | h) | h <;> simp [h]
theorem fillA : ∀ w : World, (hd.heap_39 w.params) = (hd.heap_39 w.params) ∧ PySem.Challenge.rw_nq0081_01.row.prog = PySem.Challenge.rw_nq0081_01.row.prog := by
  k_fill
  exact fun _ => ⟨rfl, rfl⟩
theorem answer_spec : ∀ (w : World) (dp un : Nat) (fr : Option (List Env)) (gd : Option (List Code)) (s : Shared) (Q E : Value → Shared → Prop) (n : Int) (t : Tok),
    Gr w s.heap → dp + 4 < recursionLimit → un + 50 < cLine →
    (∀ h' tk t', Ext [] s.heap h' → Q (.bytes (ansB n).toArray t') { s with heap := h', toks := tk }) →
    wpAny (model PySem.Challenge.rw_nq0081_01.row.prog w) (Around.mk none dp fr gd un) (call (.ref 130) [.int n t]) Q E s := by
  intro w dp un fr gd s Q E n t g hdp hun hQ
  refine' enterC [] [] [(Str.ofString "n", .int n t)] g ?hn ?ho ?hcd ?room ?bind ?kin ?nd ?c2 ?c3 ?c4 ?_
  case hn => intro q hq; cases hq
  case ho => k_is
  case hcd => k_is
  case room => omega
  case bind => exact rfl
  case kin => exact rfl
  case nd => decide +kernel
  case c2 => exact rfl
  case c3 => exact rfl
  case c4 => exact rfl
  intro g0 L h1 tk1 cells mean mg mb hext hsub hL X T F N Y
  k_cells Y
  simp only [List.cons_append, List.nil_append] at N
  rename_i o1 o2 d1 d2
  replace d1 : o1.data = .cell none := d1
  replace d2 : o2.data = .cell (some (.int n t)) := d2
  k_steps
  rename Fr _ _ _ _ => F2
  rename News _ _ _ _ => N2
  rename Obj.data _ = Data.cell (some (Value.ref _)) => d3
  rename_i l2 h20 hll h2 o3
  refine Hold.of ?_
  obtain ⟨nv, hnv, N3⟩ : ∃ nv : List Value, BA nv nms ∧ News g0 L h2 [(l2, listOf nv.toArray 0), (L + 1 + 1, o3), (L + 1, o2)] := by
    refine ⟨_, ?_, N2⟩
    exact .cons _ _ (.cons _ _ (.cons _ _ (.cons _ _ (.cons _ _ (.cons _ _ (.cons _ _ (.cons _ _ (.cons _ _ .nil))))))))
  clear N2
  refine' comp_asg ?hsw ?hclos ?hkind ?hnames ?hrest ?hs
  case hclos => with_unfolding_all rfl
  case hsw => with_unfolding_all rfl
  case hkind => rfl
  case hnames => decide
  case hs => intro _; rfl
  k_steps
  rename IsRange _ _ _ _ _ _ _ _ => hR
  rename Fr _ _ _ _ => F4
  rename News _ _ _ _ => N4
  refine Hold.of ?_
  refine src_range (k := 9) rfl hR rfl rfl F4 N4 ?_
  intro I h5 S
  refine compAsg S (fun i ys nw => nw = [(l2, listOf nv.toArray 0), (L + 1 + 1, o3), (L + 1, o2)] ∧ BA ys ((sel (low9 n) i).map fun k => nms.getD k [])) (by decide) rfl rfl (by rw [sizeLine_eq]; omega) ⟨rfl, .nil⟩ rfl rfl (CompTurn.of ?_) ?_
  · intro C fp i v ys m2 news1 h6 tk6 own oC hi hP hJ hyl hnf hown hCf hnone hns hmx F6 N6
    obtain ⟨rfl, hI⟩ := hJ
    obtain ⟨tv, rfl⟩ := hP
    have ei : (0 : Int) + (i : Int) * 1 = (i : Int) := by omega
    rw [ei] at hmx
    refine tests_one ?_
    simp only [List.cons_append, List.nil_append] at N6 ⊢
    k_steps
    · rename Int.fmod _ 2 = 1 => hb
      rw [bit_eq n i hi] at hb
      dsimp only
      have hni : nms[i]? = some (nms.getD i []) := by
        rw [List.getD_eq_getElem?_getD, List.getElem?_eq_getElem (show i < nms.length from hi)]; rfl
      obtain ⟨tx, hx⟩ := hnv.get hni
      refine kim_list N6 (.head _) rfl rfl (by omega) (by omega) (by rw [Int.toNat_natCast]; exact hx) ?_
      refine ⟨_, _, _, rfl, F6, (fun p hp => N6 p ?_), hnf, rfl, ?_⟩
      · exact mem_skip hp
      · have hb' : low9 n / 2 ^ (8 - i) % 2 = 1 := by omega
        rw [sel_succ, if_pos hb', List.map_append]
        exact hI.snoc _ _
    · rename Int.fmod _ 2 ≠ 1 => hb
      rw [bit_eq n i hi] at hb
      dsimp only
      refine ⟨_, _, _, rfl, F6, (fun p hp => N6 p ?_), hnf, rfl, ?_⟩
      · exact mem_skip hp
      · have hb' : ¬ (low9 n / 2 ^ (8 - i) % 2 = 1) := by omega
        rw [sel_succ, if_neg hb', List.append_nil]
        exact hI
  · intro D nn ys news1 h6 tk6 hJ hks hkD hnD F6 N6
    obtain ⟨rfl, hI⟩ := hJ
    replace hI : BA ys (flagsOf (low9 n)) := hI
    k_steps
    · refine Hold.of ?_
      refine getMethod_builtin (T := "bytes") (typeIs_bytes _ _ _) FB.plainAttrs_bytes slot_bjoin type_bjoin (fun a ea => nomatch ea) ?_
      dsimp only
      k_steps
      refine Hold.of ?_
      refine join_wp (sep := [32]) ⟨_, (N6 _ (.head _)).1, rfl, _, rfl⟩ hI (by have := flags_len (low9 n); omega) (by have := flags_sum (low9 n) [32].length; exact Nat.lt_of_le_of_lt this (by decide)) ?_
      intro tj kj
      dsimp only
      k_steps
      refine Hold.of ?_
      refine KBy.add_bytes (b := ansP0.toArray) (by have := joinL_len [32] (flagsOf (low9 n)); have := flags_sum (low9 n) [32].length; simp [ansP0] at *; omega) ?_
      intro ta ka
      dsimp only
      k_steps
      refine Hold.of ?_
      refine KBy.add_bytes (c := [41, 41].toArray) (by have := joinL_len [32] (flagsOf (low9 n)); have := flags_sum (low9 n) [32].length; simp [ansP0, ansS] at *; omega) ?_
      intro tb kb
      dsimp only
      k_steps
      have e : ansP0.toArray ++ (joinL [32] (flagsOf (low9 n))).toArray ++ [41, 41].toArray = (ansB n).toArray := by
        unfold ansB
        rw [if_pos ‹_›]
        simp
      rw [e]
      exact hQ _ _ _ fun b o n e => F6.keep b o (hext b o n e)
    · refine Hold.of ?_
      refine getMethod_builtin (T := "bytes") (typeIs_bytes _ _ _) FB.plainAttrs_bytes slot_bjoin type_bjoin (fun a ea => nomatch ea) ?_
      dsimp only
      k_steps
      refine Hold.of ?_
      refine join_wp (sep := [32, 32]) ⟨_, (N6 _ (.head _)).1, rfl, _, rfl⟩ hI (by have := flags_len (low9 n); omega) (by have := flags_sum (low9 n) [32, 32].length; exact Nat.lt_of_le_of_lt this (by decide)) ?_
      intro tj kj
      dsimp only
      k_steps
      refine Hold.of ?_
      refine KBy.add_bytes (b := ansP1.toArray) (by have := joinL_len [32, 32] (flagsOf (low9 n)); have := flags_sum (low9 n) [32, 32].length; simp [ansP1] at *; omega) ?_
      intro ta ka
      dsimp only
      k_steps
      refine Hold.of ?_
      refine KBy.add_bytes (c := ansS.toArray) (by have := joinL_len [32, 32] (flagsOf (low9 n)); have := flags_sum (low9 n) [32, 32].length; simp [ansP1, ansS] at *; omega) ?_
      intro tb kb
      dsimp only
      k_steps
      have e : ansP1.toArray ++ (joinL [32, 32] (flagsOf (low9 n))).toArray ++ ansS.toArray = (ansB n).toArray := by
        unfold ansB
        rw [if_neg ‹_›, if_pos ‹_›]
        simp
      rw [e]
      exact hQ _ _ _ fun b o n e => F6.keep b o (hext b o n e)
    · refine Hold.of ?_
      refine getMethod_builtin (T := "bytes") (typeIs_bytes _ _ _) FB.plainAttrs_bytes slot_bjoin type_bjoin (fun a ea => nomatch ea) ?_
      dsimp only
      k_steps
      refine Hold.of ?_
      refine join_wp (sep := [9]) ⟨_, (N6 _ (.head _)).1, rfl, _, rfl⟩ hI (by have := flags_len (low9 n); omega) (by have := flags_sum (low9 n) [9].length; exact Nat.lt_of_le_of_lt this (by decide)) ?_
      intro tj kj
      dsimp only
      k_steps
      refine Hold.of ?_
      refine KBy.add_bytes (b := ansP1.toArray) (by have := joinL_len [9] (flagsOf (low9 n)); have := flags_sum (low9 n) [9].length; simp [ansP1] at *; omega) ?_
      intro ta ka
      dsimp only
      k_steps
      refine Hold.of ?_
      refine KBy.add_bytes (c := [41, 41].toArray) (by have := joinL_len [9] (flagsOf (low9 n)); have := flags_sum (low9 n) [9].length; simp [ansP1, ansS] at *; omega) ?_
      intro tb kb
      dsimp only
      k_steps
      have e : ansP1.toArray ++ (joinL [9] (flagsOf (low9 n))).toArray ++ [41, 41].toArray = (ansB n).toArray := by
        unfold ansB
        rw [if_neg ‹_›, if_neg ‹_›]
        simp
      rw [e]
      exact hQ _ _ _ fun b o n e => F6.keep b o (hext b o n e)
end Mine
end
section
open PySem PySem.W PyProof.Rows PySem.Calls PySem.Spec
namespace Mine
open PySem.Builtin.Bytes (words isSpace)

theorem mem_joinL {sep : List UInt8} {c : UInt8} : ∀ {xs : List (List UInt8)}, c ∈ joinL sep xs → c ∈ sep ∨ ∃ x ∈ xs, c ∈ x
  | [], h => nomatch h
  | [x], h => .inr ⟨x, .head _, h⟩
  | x :: y :: r, h => by
    rw [joinL] at h
    rcases List.mem_append.mp h with h | h
    · rcases List.mem_append.mp h with h | h
      · exact .inr ⟨x, .head _, h⟩
      · exact .inl h
    · rcases mem_joinL h with h | ⟨z, hz, hc⟩
      · exact .inl h
      · exact .inr ⟨z, .tail _ hz, hc⟩

theorem drop_pre {p : UInt8 → Bool} : ∀ {a b : List UInt8}, (∀ c ∈ a, p c = true) → (a ++ b).dropWhile p = b.dropWhile p
  | [], _, _ => rfl
  | c :: a, b, h => by
    rw [List.cons_append, List.dropWhile_cons_of_pos (h c (.head _))]
    exact drop_pre fun d hd => h d (.tail _ hd)
theorem take_pre {p : UInt8 → Bool} : ∀ {a b : List UInt8}, (∀ c ∈ a, p c = true) → (∀ c r, b = c :: r → p c = false) → (a ++ b).takeWhile p = a ∧ (a ++ b).dropWhile p = b
  | [], b, _, hb => by
    cases b with
    | nil => exact ⟨rfl, rfl⟩
    | cons c r =>
      have := hb c r rfl
      simp [this]
  | c :: a, b, h, hb => by
    have hc := h c (.head _)
    have ih := take_pre (a := a) (b := b) (fun d hd => h d (.tail _ hd)) hb
    rw [List.cons_append, List.takeWhile_cons_of_pos hc, List.dropWhile_cons_of_pos hc, ih.1, ih.2]
    exact ⟨rfl, rfl⟩

/-- a join by white, split at white -/
theorem words_join {sep : List UInt8} (hs : sep ≠ []) (hsp : ∀ c ∈ sep, isSpace c = true) : ∀ (xs : List (List UInt8)), (∀ x ∈ xs, x ≠ [] ∧ ∀ c ∈ x, isSpace c = false) →
    ∀ (pre : List UInt8) (f l : Nat), (∀ c ∈ pre, isSpace c = true) → xs.length < f → xs.length < l → words f l (pre ++ joinL sep xs) = xs
  | [], _, pre, f, l, hp, hf, _ => by
    obtain ⟨f, rfl⟩ : ∃ g, f = g + 1 := ⟨f - 1, by omega⟩
    rw [words, drop_pre hp]
    rfl
  | x :: r, hx, pre, f, l, hp, hf, hl => by
    obtain ⟨f, rfl⟩ : ∃ g, f = g + 1 := ⟨f - 1, by omega⟩
    have hx1 := hx x (.head _)
    have hr : ∀ y ∈ r, y ≠ [] ∧ ∀ c ∈ y, isSpace c = false := fun y hy => hx y (.tail _ hy)
    obtain ⟨tail, he, ht, hw⟩ : ∃ tail, joinL sep (x :: r) = x ++ tail ∧ (∀ c q, tail = c :: q → isSpace c = true) ∧ words f (l - 1) tail = r := by
      cases r with
      | nil => exact ⟨[], by simp [joinL], (fun c q e => by cases e), words_nil _ _⟩
      | cons y q =>
        refine ⟨sep ++ joinL sep (y :: q), by rw [joinL]; simp, ?_, ?_⟩
        · intro c q' e
          cases sep with
          | nil => exact absurd rfl hs
          | cons d sep => rw [List.cons_append] at e; cases e; exact hsp _ (.head _)
        · exact words_join hs hsp (y :: q) hr sep f (l - 1) hsp (by simp at hf ⊢; omega) (by simp at hl ⊢; omega)
    rw [words, drop_pre hp, he]
    have hne : x ++ tail ≠ [] := by simp [hx1.1]
    have hdrop : (x ++ tail).dropWhile isSpace = x ++ tail := by
      cases hx' : x with
      | nil => exact absurd hx' hx1.1
      | cons d x' => rw [List.cons_append, List.dropWhile_cons_of_neg (by simp [hx1.2 d (by rw [hx']; exact .head _)])]
    rw [hdrop]
    have q := take_pre (p := (!isSpace ·)) (a := x) (b := tail) (fun c hc => by simp [hx1.2 c hc]) (fun c q e => by simp [ht c q e])
    have hl0 : (l == 0) = false := beq_eq_false_iff_ne.mpr (by omega)
    split
    · rename_i e; exact absurd e hne
    · rename_i rest hrest
      rw [hl0]
      simp only [Bool.false_eq_true, if_false]
      rw [q.1, q.2, hw]

theorem nms_ok : ∀ x ∈ nms, x ≠ [] ∧ ∀ c ∈ x, isSpace c = false ∧ c ≠ 70 ∧ c ≠ 41 ∧ c ≠ 10 := by decide +kernel
theorem flags_mem {x : Nat} {y : List UInt8} (h : y ∈ flagsOf x) : y ∈ nms := by
  unfold flagsOf at h
  obtain ⟨k, hk, rfl⟩ := List.mem_map.mp h
  have : k < nms.length := by
    have := (List.mem_filter.mp hk).1
    exact List.mem_range.mp this
  rw [List.getD_eq_getElem?_getD, List.getElem?_eq_getElem this]
  exact List.getElem_mem this

theorem flags_words (x : Nat) (sep : List UInt8) (hs : sep ≠ []) (hsp : ∀ c ∈ sep, isSpace c = true) : wordsOf (joinL sep (flagsOf x)) = flagsOf x := by
  have ok : ∀ y ∈ flagsOf x, y ≠ [] ∧ ∀ c ∈ y, isSpace c = false := fun y hy => ⟨(nms_ok y (flags_mem hy)).1, fun c hc => ((nms_ok y (flags_mem hy)).2 c hc).1⟩
  have hlen : (flagsOf x).length ≤ (joinL sep (flagsOf x)).length := by
    generalize flagsOf x = xs at ok
    induction xs with
    | nil => simp
    | cons y r ih =>
      have hy : 1 ≤ y.length := List.length_pos_iff.mpr (ok y (.head _)).1
      have ih' := ih fun z hz => ok z (.tail _ hz)
      cases r with
      | nil => simp [joinL]; omega
      | cons z q => rw [joinL]; simp at ih' ⊢; omega
  have := words_join hs hsp (flagsOf x) ok [] ((joinL sep (flagsOf x)).length + 1) ((joinL sep (flagsOf x)).length + 1) (fun c hc => nomatch hc) (by omega) (by omega)
  simpa using this

theorem body_ok {x : Nat} {sep : List UInt8} (hsp : ∀ c ∈ sep, c ≠ 70 ∧ c ≠ 41 ∧ c ≠ 10) : ∀ c ∈ joinL sep (flagsOf x), c ≠ 70 ∧ c ≠ 41 ∧ c ≠ 10 := by
  intro c hc
  rcases mem_joinL hc with h | ⟨y, hy, hc⟩
  · exact hsp c h
  · exact ((nms_ok y (flags_mem hy)).2 c hc).2
theorem nat_ne {c : UInt8} {k : Nat} (hk : k < 256) (h : c ≠ UInt8.ofNat k) : c.toNat ≠ k := by
  intro e
  apply h
  rw [← e]
  simp

theorem cut (P B S : List UInt8) : ((P ++ B ++ S).toArray.extract P.length (P.length + B.length)).toList = B := by
  simp [List.extract_eq_drop_take]

def ansA0 : List UInt8 := [42, 32, 49, 32, 70, 69, 84, 67, 72, 32, 40, 88, 32, 70, 76, 65, 71, 83, 32, 40, 92, 83, 101, 101, 110, 32, 97, 41, 32]
def ansA1 : List UInt8 := [42, 32, 49, 32, 70, 69, 84, 67, 72, 32, 40]

theorem found_A (P A : List UInt8) (hP : P = A ++ [70, 76, 65, 71, 83, 32, 40]) (B : List UInt8) (hB : ∀ c ∈ B, c ≠ 70 ∧ c ≠ 41 ∧ c ≠ 10) (hA : ∀ c ∈ A, c ≠ 10) (hz : A.length + B.length < 90000) :
    ∃ k mf, k < 1000000 ∧ Found ((P ++ B ++ [41, 41]).map (fun x : UInt8 => x.toNat)).toArray k P.length (P.length + B.length) mf := by
  subst hP
  have h1 : ∀ c ∈ A.map (fun x : UInt8 => x.toNat) ++ (F7 ++ (B.map (fun x : UInt8 => x.toNat) ++ 41 :: [41])), c ≠ 10 := by
    intro c hc
    simp only [List.mem_append, List.mem_map, List.mem_cons, List.not_mem_nil, or_false] at hc
    rcases hc with ⟨a, ha, rfl⟩ | hc | ⟨a, ha, rfl⟩ | hc
    · exact nat_ne (by decide) (hA a ha)
    · rcases hc with rfl | rfl | rfl | rfl | rfl | rfl | rfl <;> decide
    · exact nat_ne (by decide) (hB a ha).2.2
    · rcases hc with rfl | rfl <;> decide
  have h2 : ∀ c ∈ B.map (fun x : UInt8 => x.toNat), c ≠ 70 ∧ c ≠ 41 := by
    intro c hc
    obtain ⟨a, ha, rfl⟩ := List.mem_map.mp hc
    exact ⟨nat_ne (by decide) (hB a ha).1, nat_ne (by decide) (hB a ha).2.1⟩
  obtain ⟨k, mf, hk, hf⟩ := runA (A.map (fun x : UInt8 => x.toNat)) (B.map (fun x : UInt8 => x.toNat)) [41] (by simp; omega) h1 h2 (by decide)
  refine ⟨k, mf, hk, ?_⟩
  have e1 : ((A ++ [70, 76, 65, 71, 83, 32, 40] ++ B ++ [41, 41]).map (fun x : UInt8 => x.toNat)) = A.map (fun x : UInt8 => x.toNat) ++ (F7 ++ (B.map (fun x : UInt8 => x.toNat) ++ 41 :: [41])) := by simp
  rw [e1]
  have e2 : (A ++ [70, 76, 65, 71, 83, 32, 40]).length = (A.map (fun x : UInt8 => x.toNat)).length + 7 := by simp
  rw [e2]
  rw [List.length_map (as := B)] at hf
  exact hf

theorem found_B (P A : List UInt8) (hP : P = A ++ [70, 76, 65, 71, 83, 32, 40]) (B : List UInt8) (hB : ∀ c ∈ B, c ≠ 70 ∧ c ≠ 41 ∧ c ≠ 10) (hA : ∀ c ∈ A, c ≠ 10) (hz : A.length + B.length < 90000) :
    ∃ k mf, k < 1000000 ∧ Found ((P ++ B ++ ansS).map (fun x : UInt8 => x.toNat)).toArray k P.length (P.length + B.length) mf := by
  subst hP
  have h1 : ∀ c ∈ A.map (fun x : UInt8 => x.toNat) ++ (F7 ++ (B.map (fun x : UInt8 => x.toNat) ++ 41 :: 32 :: (F7 ++ [98]))), c ≠ 10 := by
    intro c hc
    simp only [List.mem_append, List.mem_map, List.mem_cons, List.not_mem_nil, or_false] at hc
    rcases hc with ⟨a, ha, rfl⟩ | hc | ⟨a, ha, rfl⟩ | hc
    · exact nat_ne (by decide) (hA a ha)
    · rcases hc with rfl | rfl | rfl | rfl | rfl | rfl | rfl <;> decide
    · exact nat_ne (by decide) (hB a ha).2.2
    · rcases hc with rfl | rfl | hc | rfl
      · decide
      · decide
      · rcases hc with rfl | rfl | rfl | rfl | rfl | rfl | rfl <;> decide
      · decide
  have h2 : ∀ c ∈ B.map (fun x : UInt8 => x.toNat), c ≠ 70 ∧ c ≠ 41 := by
    intro c hc
    obtain ⟨a, ha, rfl⟩ := List.mem_map.mp hc
    exact ⟨nat_ne (by decide) (hB a ha).1, nat_ne (by decide) (hB a ha).2.1⟩
  obtain ⟨k, mf, hk, hf⟩ := runB (A.map (fun x : UInt8 => x.toNat)) (B.map (fun x : UInt8 => x.toNat)) (by simp; omega) h1 h2
  refine ⟨k, mf, hk, ?_⟩
  have e1 : ((A ++ [70, 76, 65, 71, 83, 32, 40] ++ B ++ ansS).map (fun x : UInt8 => x.toNat)) = A.map (fun x : UInt8 => x.toNat) ++ (F7 ++ (B.map (fun x : UInt8 => x.toNat) ++ 41 :: 32 :: (F7 ++ [98]))) := by simp [ansS]
  rw [e1]
  have e2 : (A ++ [70, 76, 65, 71, 83, 32, 40]).length = (A.map (fun x : UInt8 => x.toNat)).length + 7 := by simp
  rw [e2]
  rw [List.length_map (as := B)] at hf
  exact hf

theorem join_short (x : Nat) (sep : List UInt8) (h : sep.length ≤ 2) : (joinL sep (flagsOf x)).length ≤ 99 := by
  have h1 := joinL_len sep (flagsOf x)
  have h2 := flags_sum x sep.length
  have h3 : 9 * (9 + sep.length) ≤ 99 := by omega
  omega

/-- the answer, parsed -/
theorem ans_found (n : Int) : (ansB n).length < 100000 ∧ ∃ k p e mf, k < 1000000 ∧ Found ((ansB n).map (fun x : UInt8 => x.toNat)).toArray k p e mf ∧ p ≤ e ∧ wordsOf ((ansB n).toArray.extract p e).toList = flagsOf (low9 n) := by
  unfold ansB
  split
  · have hl := join_short (low9 n) [32] (by decide)
    refine ⟨by simp [ansP0]; omega, ?_⟩
    obtain ⟨k, mf, hk, hf⟩ := found_A ansP0 ansA0 rfl (joinL [32] (flagsOf (low9 n))) (body_ok (by decide)) (by decide) (by simp [ansA0]; omega)
    exact ⟨k, _, _, mf, hk, hf, Nat.le_add_right _ _, by rw [cut]; exact flags_words _ _ (by decide) (by decide)⟩
  · split
    · have hl := join_short (low9 n) [32, 32] (by decide)
      refine ⟨by simp [ansP1, ansS]; omega, ?_⟩
      obtain ⟨k, mf, hk, hf⟩ := found_B ansP1 ansA1 rfl (joinL [32, 32] (flagsOf (low9 n))) (body_ok (by decide)) (by decide) (by simp [ansA1]; omega)
      exact ⟨k, _, _, mf, hk, hf, Nat.le_add_right _ _, by rw [cut]; exact flags_words _ _ (by decide) (by decide)⟩
    · have hl := join_short (low9 n) [9] (by decide)
      refine ⟨by simp [ansP1]; omega, ?_⟩
      obtain ⟨k, mf, hk, hf⟩ := found_A ansP1 ansA1 rfl (joinL [9] (flagsOf (low9 n))) (body_ok (by decide)) (by decide) (by simp [ansA1]; omega)
      exact ⟨k, _, _, mf, hk, hf, Nat.le_add_right _ _, by rw [cut]; exact flags_words _ _ (by decide) (by decide)⟩

/-- the flags' weights are the number again -/
theorem sel_sum : ∀ x, x < 512 → ((sel x 9).map fun k => 2 ^ (8 - k)).sum = x := by
  have all : ∀ x : Fin 512, ((sel x.val 9).map fun k => 2 ^ (8 - k)).sum = x.val := by decide +kernel
  exact fun x h => all ⟨x, h⟩
end Mine
end
section
open PySem
namespace Mine

theorem str_eq {a b : Str} : a = b ↔ a.cps.toList = b.cps.toList := by
  constructor
  · rintro rfl; rfl
  · intro h
    cases a; cases b
    congr
    exact Array.toList_inj.mp h
/-- the order of two items, as keys -/
theorem lt_iff (a b : It) : a.lt b = true ↔ a.s.cps.toList < b.s.cps.toList ∨ (a.s.cps.toList = b.s.cps.toList ∧ a.b.toList < b.b.toList) := by
  unfold It.lt
  by_cases h : a.s = b.s
  · rw [if_pos h, decide_eq_true_iff]
    have e := str_eq.mp h
    constructor
    · exact fun h => .inr ⟨e, h⟩
    · rintro (h | h)
      · rw [e] at h; exact absurd h (List.lt_irrefl _)
      · exact h.2
  · rw [if_neg h, decide_eq_true_iff]
    constructor
    · exact .inl
    · rintro (h' | h')
      · exact h'
      · exact absurd (str_eq.mpr h'.1) h
def le (a b : It) : Prop := b.lt a = false
theorem le_iff (a b : It) : le a b ↔ a.s.cps.toList < b.s.cps.toList ∨ (a.s.cps.toList = b.s.cps.toList ∧ a.b.toList ≤ b.b.toList) := by
  unfold le
  rw [Bool.eq_false_iff, Ne, lt_iff]
  constructor
  · intro h
    rw [not_or] at h
    have h1 : a.s.cps.toList ≤ b.s.cps.toList := List.not_lt.mp h.1
    by_cases e : a.s.cps.toList = b.s.cps.toList
    · exact .inr ⟨e, List.not_lt.mp fun h' => h.2 ⟨e.symm, h'⟩⟩
    · refine .inl ?_
      apply Classical.byContradiction
      intro h'
      exact e (List.le_antisymm h1 (List.not_lt.mp h'))
  · rintro (h | ⟨h, h'⟩)
    · rintro (q | ⟨q, _⟩)
      · exact List.lt_irrefl _ (List.lt_trans h q)
      · rw [q] at h; exact List.lt_irrefl _ h
    · rintro (q | ⟨_, q⟩)
      · rw [h] at q; exact List.lt_irrefl _ q
      · exact List.not_lt.mpr h' q
theorem le_trans' {a b c : It} (h : le a b) (h' : le b c) : le a c := by
  rw [le_iff] at *
  rcases h with h | ⟨h, h1⟩
  · rcases h' with h' | ⟨h', _⟩
    · exact .inl (List.lt_trans h h')
    · exact .inl (h' ▸ h)
  · rcases h' with h' | ⟨h', h2⟩
    · exact .inl (h ▸ h')
    · exact .inr ⟨h.trans h', List.le_trans h1 h2⟩
theorem lt_le {a b : It} (h : a.lt b = true) : le a b := by
  rw [le_iff]
  rcases (lt_iff a b).mp h with h | ⟨h, h'⟩
  · exact .inl h
  · exact .inr ⟨h, List.not_lt.mp fun q => List.lt_irrefl _ (List.lt_trans h' q)⟩
theorem le_refl' (a : It) : le a a := by rw [le_iff]; exact .inr ⟨rfl, List.not_lt.mp (List.lt_irrefl _)⟩

section
variable (d : It)
def HeapBut (xs : List It) (p : Nat) : Prop := ∀ i, 0 < i → i < xs.length → i ≠ p → (i - 1) / 2 ≠ p → le (xs.getD ((i - 1) / 2) d) (xs.getD i d)
def Gap (xs : List It) (p : Nat) : Prop := 0 < p → ∀ i, 0 < i → i < xs.length → (i - 1) / 2 = p → le (xs.getD ((p - 1) / 2) d) (xs.getD i d)
def HeapOK (xs : List It) : Prop := ∀ i, 0 < i → i < xs.length → le (xs.getD ((i - 1) / 2) d) (xs.getD i d)
variable {d}

theorem getD_set (xs : List It) (p i : Nat) (v : It) (hp : p < xs.length) : (xs.set p v).getD i d = if i = p then v else xs.getD i d := by
  rw [List.getD_eq_getElem?_getD, List.getElem?_set, List.getD_eq_getElem?_getD]
  by_cases h : p = i
  · subst h; simp [hp]
  · rw [if_neg h, if_neg (Ne.symm h)]
theorem getD_any {xs : List It} {i : Nat} (h : i < xs.length) (d' : It) : xs.getD i d' = xs.getD i d := by
  rw [List.getD_eq_getElem?_getD, List.getD_eq_getElem?_getD, List.getElem?_eq_getElem h]; rfl

theorem sd_heap (x : It) : ∀ (p : Nat) (xs : List It), p < xs.length → HeapBut d xs p → (∀ i, 0 < i → i < xs.length → (i - 1) / 2 = p → le x (xs.getD i d)) → Gap d xs p → HeapOK d (sdLoop x xs p) := by
  intro p
  induction p using Nat.strongRecOn with
  | _ p ih =>
    intro xs hp hB hC hG
    have base : (0 < p → le (xs.getD ((p - 1) / 2) d) x) → HeapOK d (xs.set p x) := by
      intro hq i hi hil
      rw [List.length_set] at hil
      rw [getD_set _ _ _ _ hp, getD_set _ _ _ _ hp]
      by_cases h1 : i = p
      · subst h1
        rw [if_neg (by omega), if_pos rfl]
        exact hq hi
      · rw [if_neg h1]
        by_cases h2 : (i - 1) / 2 = p
        · rw [if_pos h2]; exact hC i hi hil h2
        · rw [if_neg h2]; exact hB i hi hil h1 h2
    rw [sdLoop]
    by_cases h0 : 0 < p
    · rw [dif_pos h0]
      have hq : (p - 1) / 2 < xs.length := by omega
      rw [getD_any (d := d) hq x]
      by_cases hlt : x.lt (xs.getD ((p - 1) / 2) d) = true
      · rw [if_pos hlt]
        have par := lt_le hlt
        have down : ∀ i, 0 < i → i < xs.length → i ≠ p → (i - 1) / 2 = (p - 1) / 2 → le (xs.getD ((p - 1) / 2) d) (xs.getD i d) := fun i hi hil hne he => by
          have := hB i hi hil hne (by omega)
          rwa [he] at this
        refine ih ((p - 1) / 2) (by omega) _ (by rw [List.length_set]; exact hq) ?_ ?_ ?_
        · intro i hi hil hne hpn
          rw [List.length_set] at hil
          rw [getD_set _ _ _ _ hp, getD_set _ _ _ _ hp, if_neg (show i ≠ p by intro e; rw [e] at hpn; exact hpn rfl)]
          by_cases h2 : (i - 1) / 2 = p
          · rw [if_pos h2]; exact hG h0 i hi hil h2
          · rw [if_neg h2]
            exact hB i hi hil (by intro e; rw [e] at hpn; exact hpn rfl) h2
        · intro i hi hil he
          rw [List.length_set] at hil
          rw [getD_set _ _ _ _ hp]
          by_cases h1 : i = p
          · rw [if_pos h1]; exact par
          · rw [if_neg h1]; exact le_trans' par (down i hi hil h1 he)
        · intro hq0 i hi hil he
          rw [List.length_set] at hil
          rw [getD_set _ _ _ _ hp, getD_set _ _ _ _ hp, if_neg (show ((p - 1) / 2 - 1) / 2 ≠ p by omega)]
          have up : le (xs.getD (((p - 1) / 2 - 1) / 2) d) (xs.getD ((p - 1) / 2) d) := hB ((p - 1) / 2) hq0 hq (by omega) (by omega)
          by_cases h1 : i = p
          · rw [if_pos h1]; exact up
          · rw [if_neg h1]; exact le_trans' up (down i hi hil h1 he)
      · rw [if_neg hlt]
        exact base fun _ => by simpa [le] using hlt
    · rw [dif_neg h0]
      exact base fun h => absurd h h0
theorem sd_perm (x : It) : ∀ (p : Nat) (xs : List It), p < xs.length → (sdLoop x xs p).Perm (xs.set p x) := by
  intro p
  induction p using Nat.strongRecOn with
  | _ p ih =>
    intro xs hp
    rw [sdLoop]
    by_cases h0 : 0 < p
    · rw [dif_pos h0]
      split
      · have hq : (p - 1) / 2 < xs.length := by omega
        refine (ih ((p - 1) / 2) (by omega) _ (by rw [List.length_set]; exact hq)).trans ?_
        have h1 : p < (xs.set p x).length := by rw [List.length_set]; exact hp
        have h2 : (p - 1) / 2 < (xs.set p x).length := by rw [List.length_set]; exact hq
        have := List.set_set_perm h1 h2
        have e1 : (xs.set p x)[p] = x := by simp
        have e2 : (xs.set p x)[(p - 1) / 2] = xs.getD ((p - 1) / 2) x := by
          rw [List.getElem_set_ne (by omega), List.getD_eq_getElem?_getD, List.getElem?_eq_getElem hq]; rfl
        rw [e1, e2, List.set_set] at this
        exact this
      · exact List.Perm.refl _
    · rw [dif_neg h0]

theorem child_ok {xs : List It} {p : Nat} (h : 2 * p + 1 < xs.length) : child xs p < xs.length ∧ (child xs p - 1) / 2 = p ∧ 0 < child xs p ∧ ∀ i, 0 < i → i < xs.length → (i - 1) / 2 = p → le (xs.getD (child xs p) d) (xs.getD i d) := by
  unfold child
  rw [List.getElem?_eq_getElem h]
  have two : ∀ i, 0 < i → (i - 1) / 2 = p → i = 2 * p + 1 ∨ i = 2 * p + 2 := fun i hi he => by omega
  by_cases h2 : 2 * p + 2 < xs.length
  · rw [List.getElem?_eq_getElem h2]
    dsimp only
    have g1 : xs.getD (2 * p + 1) d = xs[2 * p + 1] := by rw [List.getD_eq_getElem?_getD, List.getElem?_eq_getElem h]; rfl
    have g2 : xs.getD (2 * p + 2) d = xs[2 * p + 2] := by rw [List.getD_eq_getElem?_getD, List.getElem?_eq_getElem h2]; rfl
    by_cases hlt : xs[2 * p + 1].lt xs[2 * p + 2] = true
    · rw [if_pos hlt]
      refine ⟨h, by omega, by omega, fun i hi hil he => ?_⟩
      rcases two i hi he with rfl | rfl
      · exact le_refl' _
      · rw [g1, g2]; exact lt_le hlt
    · rw [if_neg hlt]
      refine ⟨h2, by omega, by omega, fun i hi hil he => ?_⟩
      rcases two i hi he with rfl | rfl
      · rw [g1, g2]; simpa [le] using hlt
      · exact le_refl' _
  · rw [List.getElem?_eq_none (by omega)]
    dsimp only
    refine ⟨h, by omega, by omega, fun i hi hil he => ?_⟩
    rcases two i hi he with rfl | rfl
    · exact le_refl' _
    · omega

theorem su_heap (x : It) : ∀ (k p : Nat) (xs : List It), xs.length - p ≤ k → p < xs.length → HeapBut d xs p → Gap d xs p → HeapOK d (suLoop x xs p) := by
  intro k
  induction k with
  | zero => intro p xs hk hp; omega
  | succ k ih =>
    intro p xs hk hp hB hG
    rw [suLoop]
    by_cases h : 2 * p + 1 < xs.length
    · rw [dif_pos h]
      obtain ⟨hc, hcp, hc0, hmin⟩ := child_ok (d := d) h
      have hgt := child_gt xs p
      rw [getD_any (d := d) hc x]
      refine ih _ _ (by rw [List.length_set]; omega) (by rw [List.length_set]; exact hc) ?_ ?_
      · intro i hi hil hne hpn
        rw [List.length_set] at hil
        rw [getD_set _ _ _ _ hp, getD_set _ _ _ _ hp]
        by_cases h1 : i = p
        · subst h1
          rw [if_neg (by omega), if_pos rfl]
          exact hG hi _ hc0 hc hcp
        · rw [if_neg h1]
          by_cases h2 : (i - 1) / 2 = p
          · rw [if_pos h2]; exact hmin i hi hil h2
          · rw [if_neg h2]; exact hB i hi hil h1 h2
      · intro _ i hi hil he
        rw [List.length_set] at hil
        rw [getD_set _ _ _ _ hp, getD_set _ _ _ _ hp, hcp, if_pos rfl, if_neg (by omega)]
        have := hB i hi hil (by omega) (by omega)
        rwa [he] at this
    · rw [dif_neg h]
      refine sd_heap x p _ (by rw [List.length_set]; exact hp) ?_ ?_ ?_
      · intro i hi hil hne hpn
        rw [List.length_set] at hil
        rw [getD_set _ _ _ _ hp, getD_set _ _ _ _ hp, if_neg hne, if_neg hpn]
        exact hB i hi hil hne hpn
      · intro i hi hil he
        rw [List.length_set] at hil
        omega
      · intro _ i hi hil he
        rw [List.length_set] at hil
        omega
theorem su_perm (x : It) : ∀ (k p : Nat) (xs : List It), xs.length - p ≤ k → p < xs.length → (suLoop x xs p).Perm (xs.set p x) := by
  intro k
  induction k with
  | zero => intro p xs hk hp; omega
  | succ k ih =>
    intro p xs hk hp
    rw [suLoop]
    by_cases h : 2 * p + 1 < xs.length
    · rw [dif_pos h]
      obtain ⟨hc, hcp, hc0, hmin⟩ := child_ok (d := x) h
      have hgt := child_gt xs p
      refine (ih _ _ (by rw [List.length_set]; omega) (by rw [List.length_set]; exact hc)).trans ?_
      have h1 : p < (xs.set p x).length := by rw [List.length_set]; exact hp
      have h2 : child xs p < (xs.set p x).length := by rw [List.length_set]; exact hc
      have := List.set_set_perm h1 h2
      have e1 : (xs.set p x)[p] = x := by simp
      have e2 : (xs.set p x)[child xs p] = xs.getD (child xs p) x := by
        rw [List.getElem_set_ne (by omega), List.getD_eq_getElem?_getD, List.getElem?_eq_getElem hc]; rfl
      rw [e1, e2, List.set_set] at this
      exact this
    · rw [dif_neg h]
      refine (sd_perm x p _ (by rw [List.length_set]; exact hp)).trans ?_
      rw [List.set_set]

theorem push_heap {its : List It} {x : It} (h : HeapOK d its) : HeapOK d (pushL its x) ∧ (pushL its x).Perm (its ++ [x]) := by
  unfold pushL
  have hl : (its ++ [x]).length = its.length + 1 := by simp
  refine ⟨sd_heap x its.length _ (by omega) ?_ ?_ ?_, ?_⟩
  · intro i hi hil hne hpn
    have h1 : i < its.length := by omega
    have h2 : (i - 1) / 2 < its.length := by omega
    rw [List.getD_eq_getElem?_getD, List.getElem?_append_left h2, ← List.getD_eq_getElem?_getD, List.getD_eq_getElem?_getD (i := i), List.getElem?_append_left h1, ← List.getD_eq_getElem?_getD]
    exact h i hi h1
  · intro i hi hil he; omega
  · intro _ i hi hil he; omega
  · refine (sd_perm x its.length _ (by omega)).trans ?_
    rw [List.set_append_right _ _ (Nat.le_refl _)]
    simp

theorem heap_min {xs : List It} (h : HeapOK d xs) : ∀ i, i < xs.length → le (xs.getD 0 d) (xs.getD i d) := by
  intro i
  induction i using Nat.strongRecOn with
  | _ i ih =>
    intro hi
    by_cases h0 : i = 0
    · subst h0; exact le_refl' _
    · exact le_trans' (ih ((i - 1) / 2) (by omega) (by omega)) (h i (by omega) hi)

def popRest (its : List It) (x : It) : List It := match its with | [] => [] | _ :: r => suLoop x (x :: r) 0
theorem pop_heap {its : List It} {x : It} (h : HeapOK d (its ++ [x])) : HeapOK d (popRest its x) ∧ (its.headD x :: popRest its x).Perm (its ++ [x]) ∧ ∀ y ∈ popRest its x, le (its.headD x) y := by
  cases its with
  | nil => exact ⟨fun i hi hil => absurd hil (Nat.not_lt_zero _), List.Perm.refl _, fun y hy => nomatch hy⟩
  | cons a r =>
    show HeapOK d (suLoop x (x :: r) 0) ∧ (a :: suLoop x (x :: r) 0).Perm (a :: r ++ [x]) ∧ ∀ y ∈ suLoop x (x :: r) 0, le a y
    have hlen : (x :: r).length = r.length + 1 := rfl
    have pm : (suLoop x (x :: r) 0).Perm (x :: r) := su_perm x (x :: r).length 0 _ (by omega) (by omega)
    refine ⟨su_heap x (x :: r).length 0 _ (by omega) (by omega) ?_ ?_, ?_, ?_⟩
    · intro i hi hil hne hpn
      have g : ∀ j, 0 < j → j < r.length + 1 → (x :: r).getD j d = (a :: r ++ [x]).getD j d := fun j h0 h1 => by
        obtain ⟨j, rfl⟩ : ∃ k, j = k + 1 := ⟨j - 1, by omega⟩
        rw [List.cons_append, List.getD_cons_succ, List.getD_cons_succ, List.getD_eq_getElem?_getD, List.getD_eq_getElem?_getD, List.getElem?_append_left (by omega)]
      rw [g i hi (by simpa using hil), g _ (by omega) (by simp at hil; omega)]
      exact h i hi (by simp at hil ⊢; omega)
    · intro h0; omega
    · refine (pm.cons a).trans ?_
      exact List.Perm.cons a (List.perm_append_singleton x r).symm
    · intro y hy
      have hy' : y ∈ a :: r ++ [x] := by
        have := pm.mem_iff.mp hy
        rcases List.mem_cons.mp this with rfl | h
        · simp
        · simp [h]
      obtain ⟨i, hi, rfl⟩ := List.mem_iff_getElem.mp hy'
      have := heap_min h i hi
      have e0 : (a :: r ++ [x]).getD 0 d = a := rfl
      have e1 : (a :: r ++ [x]).getD i d = (a :: r ++ [x])[i] := by rw [List.getD_eq_getElem?_getD, List.getElem?_eq_getElem hi]; rfl
      rw [e0, e1] at this
      exact this
end
end Mine
end
section
local macro_rules | `(tactic| walk_at "no such key") => `(tactic| refine Mine.hold ?_)
theorem Mine.offTL : True := by
  w_top off
  trivial
open PySem PySem.W PyProof.Rows PySem.Calls PySem.Spec
namespace Mine

def IsItem (n : Int) (k : Nat) (i : It) : Prop := i.s = Txt.join Str.empty (picks (32768 + (low9 n : Int)) 10) ∧ i.b = (apLoop (37 * k) []).toArray
structure Told (ns : List Int) (items : List It) : Prop where
  len : items.length = ns.length
  at_ : ∀ k n i, ns[k]? = some n → items[k]? = some i → IsItem n k i
def d0 : It := ⟨0, Str.empty, #[], 0, 0⟩
abbrev pairOf (i : It) : Addr × Obj := (i.a, i.obj)

theorem allLt_mem {d : Nat} : ∀ {l : List (Addr × Obj)}, AllLt d l → ∀ p ∈ l, @LT.lt Nat _ p.1 d
  | [], _, p, hp => nomatch hp
  | q :: r, h, p, hp => by
    rcases List.mem_cons.mp hp with rfl | hp
    · exact h.1
    · exact allLt_mem h.2 p hp
theorem range_ok {n : Nat} (h : n < 100) : Builtin.Range.small 0 (n : Int) 1 = true ∧ Builtin.Range.rangeSize 0 (n : Int) 1 = (n : Int) := by
  have all : ∀ k : Fin 100, Builtin.Range.small 0 (k.val : Int) 1 = true ∧ Builtin.Range.rangeSize 0 (k.val : Int) 1 = (k.val : Int) := by decide +kernel
  exact all ⟨n, h⟩

local macro_rules | `(tactic| walk_at "call ref") => `(tactic| refine Mine.hold ?_)
local macro_rules | `(tactic| walk_at "eval ListComp") => `(tactic| refine Mine.hold ?_)
local macro_rules | `(tactic| walk_at "pyIter ref") => `(tactic| refine Mine.hold ?_)
local macro_rules | `(tactic| walk_at "call builtin:len") => `(tactic| refine Mine.hold ?_)
local macro_rules | `(tactic| walk_at "exec For Name Call cons nil") => `(tactic| refine Mine.hold ?_)
local macro_rules | `(tactic| walk_at "subscriptTail ref") => `(tactic| refine Mine.hold ?_)
local macro_rules | `(tactic| walk_at "ForStep") => `(tactic| refine Mine.hold ?_)
theorem fillT : ∀ w : World, (hd.heap_39 w.params) = (hd.heap_39 w.params) ∧ PySem.Challenge.rw_nq0081_01.row.prog = PySem.Challenge.rw_nq0081_01.row.prog := by
  k_fill
  exact fun _ => ⟨rfl, rfl⟩
theorem told_spec : ∀ (w : World) (dp un : Nat) (fr : Option (List Env)) (gd : Option (List Code)) (s : Shared) (Q E : Value → Shared → Prop) (La nn : Nat) (vs : List Value) (ns : List Int),
    Gr w (hideAll s.heap [La]) → s.heap.get? La = some (listOf vs.toArray nn) → BA vs (ns.map ansB) → ns.length < 100 → dp + 20 < recursionLimit → un + 100 < cLine →
    (∀ h' tk D nd out items, Ext [] s.heap h' → s.heap.get? D = none → h'.get? D = some (listOf (refs out).toArray nd) → (∀ i ∈ out, h'.get? i.a = some i.obj ∧ s.heap.get? i.a = none) → Told ns items → out.Perm items → out.Pairwise le → Q (.ref D) { s with heap := h', toks := tk }) →
    wpAny (model PySem.Challenge.rw_nq0081_01.row.prog w) (Around.mk none dp fr gd un) (call (.ref 140) [.ref La]) Q E s := by
  intro w dp un fr gd s Q E La nn vs ns g hLa hv hlen hdp hun hQ
  refine' enterC [La] [(La, listOf vs.toArray nn)] [(Str.ofString "answers", .ref La)] g ?hn ?ho ?hcd ?room ?bind ?kin ?nd ?c2 ?c3 ?c4 ?_
  case hn => intro q hq; rw [List.mem_singleton.mp hq]; exact ⟨.head _, hLa⟩
  case ho => k_is
  case hcd => k_is
  case room => omega
  case bind => exact rfl
  case kin => exact rfl
  case nd => decide +kernel
  case c2 => exact rfl
  case c3 => exact rfl
  case c4 => exact rfl
  intro g0 L h1 tk1 cells mean mg mb hext hsub hL X T F N Y
  k_cells Y
  simp only [List.cons_append, List.nil_append] at N
  rename_i o1 d1
  replace d1 : o1.data = .cell none := d1
  k_steps
  rename Fr _ _ _ _ => F2
  rename News _ _ _ _ => N2
  rename Obj.data _ = Data.cell (some _) => d2
  rename_i H h20 F20 N20 hll h2 o2
  clear F20 N20
  simp only [List.cons_append, List.nil_append] at N2
  have hvl : vs.length = ns.length := by rw [hv.length, List.length_map]
  have hgLa : g0.get? La = none := (N2 _ (.tail _ (.tail _ (.head _)))).2.2
  have hgH : g0.get? H = none := (N2 _ (.head _)).2.2
  refine Hold.of ?_
  refine wpAny_For ?_ (by intro _; rfl)
  k_steps
  refine Hold.of ?_
  refine len_list (items := vs.toArray) ⟨_, N2.get (.tail _ (.tail _ (.head _))), rfl, _, rfl⟩ (by rw [List.size_toArray]; omega) ?_
  rw [List.size_toArray, hvl]
  k_steps
  rename IsRange _ _ _ _ _ _ _ _ => hR
  rename Fr _ _ _ _ => F4
  rename News _ _ _ _ => N4
  refine Hold.of ?_
  refine for_range (k := ns.length) rfl hR (range_ok hlen).1 (range_ok hlen).2 (fun i m news => m (Str.ofString "answers") = some (.ref La) ∧ ∃ (items l : List It) (n : Nat), news = (H, listOf (refs l).toArray n) :: (L + 1, o2) :: (La, listOf vs.toArray nn) :: items.map pairOf ∧ items.length = i ∧ (∀ k n i, ns[k]? = some n → items[k]? = some i → IsItem n k i) ∧ HeapOK d0 l ∧ l.Perm items)
    F4 N4 ⟨rfl, [], [], 0, rfl, rfl, (fun k n i _ e => by simp at e), (fun i _ hi => absurd hi (Nat.not_lt_zero _)), List.Perm.refl _⟩ ?_ ?_
  · intro fp i tv m1 news1 h5 tk5 own hi hJ hnf hown hnone F5 N5
    obtain ⟨hm, items, l, nh, rfl, hil, hit, hheap, hperm⟩ := hJ
    rw [kst_of (m := m1) (ps := [(Str.ofString "answers", .ref La)]) (fun p hp => by rw [List.mem_singleton.mp hp]; exact hm)] at F5
    have ei : (0 : Int) + (i : Int) * 1 = (i : Int) := by omega
    rw [ei]
    simp only [List.cons_append] at N5
    have hni : ns[i]? = some ns[i] := List.getElem?_eq_getElem hi
    generalize ns[i] = nI at hni
    obtain ⟨tA, hA⟩ := hv.get (show (ns.map ansB)[i]? = some (ansB nI) by rw [List.getElem?_map, hni]; rfl)
    obtain ⟨hAl, kP, pP, eP, mP, hkP, hFound, hpe, hwords⟩ := ans_found nI
    k_steps
    rename Fr _ _ _ _ => F6
    rename News _ _ _ _ => N6
    refine kim_list N6 (.tail _ (.tail _ (.head _))) rfl rfl (by omega) (by omega) (by rw [Int.toNat_natCast]; exact hA) ?_
    k_steps
    refine Hold.of ?_
    refine parse_spec w _ _ _ _ _ _ _ (ansB nI) tA kP pP eP mP (Gr.keeps ⟨X, _, _, _, T⟩ F6.keep) (by show dp + 1 + 4 < _; omega) (by show un + 3 + 50 < _; omega) hAl hkP hFound hpe ?_
    intro h7 tk7 T7 vs7 e7 hT7 hT7' hv7
    have F7 := fr_after F6 e7 (fun b hb => nomatch hb) (fun hb => nomatch hb)
    have N7 := news_after N6 e7 (fun p hp => .inl ⟨hp, fun hb => nomatch hb⟩)
    rw [hwords] at hv7
    clear F6 N6
    dsimp only
    k_steps
    refine Hold.of ?_
    refine rights_spec w _ _ _ _ _ _ _ T7 vs7 (sel (low9 nI) 9) (Gr.keeps ⟨X, _, _, _, T⟩ F7.keep) (by show dp + 1 + 4 < _; omega) (by show un + 3 + 50 < _; omega) hT7' hv7 (fun k hk => List.mem_range.mp (List.mem_filter.mp hk).1) (by have := flags_len (low9 nI); unfold flagsOf at this; rw [List.length_map] at this; omega) ?_
    intro h8 tk8 t8 e8
    have F8 := fr_after F7 e8 (fun b hb => nomatch hb) (fun hb => nomatch hb)
    have N8 := news_after N7 e8 (fun p hp => .inl ⟨hp, fun hb => nomatch hb⟩)
    clear F7 N7
    rw [sel_sum _ (low9_lt nI)]
    dsimp only
    k_steps
    refine Hold.of ?_
    refine filemode_spec w _ _ _ _ _ _ _ _ _ (Gr.keeps ⟨X, _, _, _, T⟩ F8.keep) (by show dp + 1 + 2 < _; omega) (by show un + 3 + 50 < _; omega) ?_
    intro h9 tk9 t9 e9
    have F9 := fr_after F8 e9 (fun b hb => nomatch hb) (fun hb => nomatch hb)
    have N9 := news_after N8 e9 (fun p hp => .inl ⟨hp, fun hb => nomatch hb⟩)
    clear F8 N8
    dsimp only
    k_steps
    refine Hold.of ?_
    rw [show (37 : Int) * (i : Int) = ((37 * i : Nat) : Int) by omega]
    refine int2ap_spec w _ _ _ _ _ _ _ (37 * i) _ (Gr.keeps ⟨X, _, _, _, T⟩ F9.keep) (by omega) (by show dp + 1 + 2 < _; omega) (by show un + 3 + 50 < _; omega) ?_
    intro h10 tk10 t10 e10
    have F10 := fr_after F9 e10 (fun b hb => nomatch hb) (fun hb => nomatch hb)
    have N10 := news_after N9 e10 (fun p hp => .inl ⟨hp, fun hb => nomatch hb⟩)
    clear F9 N9
    dsimp only
    k_steps
    rename Fr _ _ _ _ => F11
    rename News _ _ _ _ => N11
    rename_i D11 h11 l11
    refine Hold.of ?_
    obtain ⟨x, hx, hxs, hxb⟩ : ∃ x : It, x.a = D11 ∧ x.s = Txt.join Str.empty (picks (32768 + (low9 nI : Int)) 10) ∧ x.b = (apLoop (37 * i) []).toArray ∧ (D11, x.obj) = (D11, ({ cls := .type "tuple", data := .seq #[.str (Txt.join Str.empty (picks (32768 + (low9 nI : Int)) 10)) t9, .bytes (apLoop (37 * i) []).toArray t10] } : Obj)) := ⟨⟨D11, _, _, t9, t10⟩, rfl, rfl, rfl, rfl⟩
    obtain ⟨hxb, hxo⟩ := hxb
    rw [← hxo] at N11
    subst hx
    have hg0 : ∀ b ∈ [H], g0.get? b = none := fun b hb => by rw [List.mem_singleton.mp hb]; exact hgH
    have hHx := (N11 _ (.tail _ (.head _)))
    have neH : ∀ i : It, h11.get? i.a = some i.obj → i.a ≠ H := fun i e q => by
      rw [q, hHx.1] at e
      have e2 := congrArg Obj.cls (Option.some.inj e)
      injection e2 with e3
      exact absurd e3 (by decide)
    have inN : ∀ i ∈ l, h11.get? i.a = some i.obj := fun i hi => (N11 (pairOf i) (.tail _ (.tail _ (.tail _ (.tail _ (List.mem_append_left _ (List.mem_map_of_mem (hperm.mem_iff.mp hi)))))))).1
    have hxat := (N11 _ (.head _)).1
    have hlen2 : l.length = items.length := hperm.length_eq
    refine push_spec w _ _ _ _ _ _ _ H nh l x (gr_hide X T F11 [H] hg0) hHx.1 (fun i hi => ⟨inN i hi, neH i (inN i hi)⟩) hxat (neH x hxat) (by omega) (by show dp + 1 + 2 < _; omega) (by show un + 3 + 50 < _; omega) ?_
    intro h12 tk12 e12 hH12
    have F12 := fr_after F11 e12 hg0 (fun hb => hHx.2.1 (List.mem_singleton.mp hb).symm)
    have keepN : ∀ p ∈ (L + 1, o2) :: (La, listOf vs.toArray nn) :: (items ++ [x]).map pairOf ++ own, p.1 ≠ H → h12.get? p.1 = some p.2 ∧ p.1 ≠ L ∧ g0.get? p.1 = none := fun p hp hne => by
      have hp' : p ∈ (x.a, x.obj) :: (H, listOf (refs l).toArray nh) :: (L + 1, o2) :: (La, listOf vs.toArray nn) :: (items.map pairOf ++ own) := by
        simp only [List.cons_append, List.map_append, List.map_cons, List.map_nil, List.mem_append, List.mem_cons, List.not_mem_nil, or_false] at hp ⊢
        rcases hp with h | h | (h | h) | h <;> simp [h]
      exact ⟨e12 _ _ (by simpa using hne) (N11 p hp').1, (N11 p hp').2⟩
    have N12 : News g0 L h12 ((H, listOf (refs (pushL l x)).toArray (nh + 1)) :: (L + 1, o2) :: (La, listOf vs.toArray nn) :: (items ++ [x]).map pairOf ++ own) := by
      intro p hp
      rw [List.cons_append] at hp
      rcases List.mem_cons.mp hp with rfl | hp
      · exact ⟨hH12, hHx.2⟩
      · refine keepN p hp fun q => ?_
        simp only [List.cons_append, List.map_append, List.map_cons, List.map_nil, List.mem_append, List.mem_cons, List.not_mem_nil, or_false] at hp
        rcases hp with rfl | rfl | (h | rfl) | h
        · exact absurd q (Nat.ne_of_lt hll.1)
        · exact absurd q (Nat.ne_of_lt hll.2)
        · obtain ⟨j, hj, rfl⟩ := List.mem_map.mp h
          exact neH j (N11 (pairOf j) (.tail _ (.tail _ (.tail _ (.tail _ (List.mem_append_left _ h)))))).1 q
        · exact neH x hxat q
        · exact hnf _ (.head _) (by show H ∈ fp; rw [← q]; exact hown p h)
    have hxfp : x.a ∉ fp := fun hm => by
      obtain ⟨o, ho⟩ := hnone _ hm
      exact Nat.lt_irrefl _ (allLt_mem l11.2.2.2 _ (List.mem_append_right _ ho))
    clear F11 N11
    dsimp only
    k_steps
    refine Hold.of ?_
    refine ⟨_, _, _, (H, listOf (refs (pushL l x)).toArray (nh + 1)) :: (L + 1, o2) :: (La, listOf vs.toArray nn) :: (items ++ [x]).map pairOf, rfl, F12, N12, ?_, rfl, items ++ [x], pushL l x, nh + 1, rfl, by rw [List.length_append, hil]; rfl, ?_, (push_heap hheap).1, (push_heap hheap).2.trans (hperm.append_right [x])⟩
    · intro p hp
      simp only [List.map_append, List.map_cons, List.map_nil, List.mem_append, List.mem_cons, List.not_mem_nil, or_false] at hp
      rcases hp with rfl | rfl | rfl | h | rfl
      · exact hnf (H, listOf (refs l).toArray nh) (.head _)
      · exact hnf _ (.tail _ (.head _))
      · exact hnf _ (.tail _ (.tail _ (.head _)))
      · exact hnf _ (.tail _ (.tail _ (.tail _ h)))
      · exact hxfp
    · intro k n j hn hj
      rcases Nat.lt_or_ge k items.length with hk | hk
      · rw [List.getElem?_append_left hk] at hj
        exact hit k n j hn hj
      · have hk2 : k = i := by
          rcases Nat.lt_or_ge k (items.length + 1) with h | h
          · omega
          · rw [List.getElem?_eq_none (by simp; omega)] at hj; cases hj
        subst hk2
        rw [List.getElem?_append_right (by omega), hil, Nat.sub_self] at hj
        cases hj
        rw [hni] at hn
        cases hn
        exact ⟨hxs, hxb⟩
  · intro m1 news1 h5 tk5 hJ F5 N5
    obtain ⟨hm, items, l, nh, rfl, hil, hit, hheap, hperm⟩ := hJ
    rw [kst_of (m := m1) (ps := [(Str.ofString "answers", .ref La)]) (fun p hp => by rw [List.mem_singleton.mp hp]; exact hm)] at F5
    k_steps
    refine Hold.of ?_
    refine' comp_start ?hclos ?hkind ?hnames ?hrest ?hs
    case hclos => with_unfolding_all rfl
    case hkind => rfl
    case hnames => decide
    case hs => intro _; rfl
    k_steps
    refine Hold.of ?_
    have hLas : @LT.lt Nat _ La s.heap.objs.size := Heap.lt_size hLa
    have hL' : @LE.le Nat _ s.heap.objs.size L := hL
    have hLaAt := (N5 _ (.tail _ (.tail _ (.head _)))).1
    have notLa : ∀ i : It, h5.get? i.a = some i.obj → i.a ≠ La := fun i e q => by
      rw [q, hLaAt] at e
      have e2 := congrArg Obj.cls (Option.some.inj e)
      injection e2 with e3
      exact absurd e3 (by decide)
    have N6 : News g0 L h5 ((H, listOf (refs l).toArray nh) :: (L + 1, o2) :: items.map pairOf) := fun p hp => by
      rcases List.mem_cons.mp hp with rfl | hp
      · exact N5 _ (.head _)
      · rcases List.mem_cons.mp hp with rfl | hp
        · exact N5 _ (.tail _ (.head _))
        · exact N5 _ (.tail _ (.tail _ (.tail _ hp)))
    refine src_list rfl (items := vs.toArray) ⟨_, hLaAt, rfl, _, rfl⟩ (Nat.ne_of_lt (Nat.lt_of_lt_of_le hLas hL')) F5 N6 ?_ ?_
    · intro p hp
      rcases List.mem_cons.mp hp with rfl | hp
      · exact Ne.symm (Nat.ne_of_lt hll.2)
      · rcases List.mem_cons.mp hp with rfl | hp
        · exact Ne.symm (Nat.ne_of_lt (Nat.lt_succ_of_lt (Nat.lt_of_lt_of_le hLas hL')))
        · obtain ⟨j, hj, rfl⟩ := List.mem_map.mp hp
          exact notLa j (N6 _ (.tail _ (.tail _ hp))).1
    intro I h7 hk7 S
    rw [List.size_toArray, hvl] at S
    refine compEval S (fun i ys nw => ∃ (out l : List It) (n : Nat), ys = refs out ∧ nw = (H, listOf (refs l).toArray n) :: (L + 1, o2) :: items.map pairOf ∧ out.length = i ∧ (out ++ l).Perm items ∧ HeapOK d0 l ∧ out.Pairwise le ∧ ∀ a ∈ out, ∀ b ∈ l, le a b) (by decide) rfl rfl (by rw [sizeLine_eq]; omega)
      ⟨[], l, nh, rfl, rfl, rfl, hperm, hheap, .nil, fun a ha => nomatch ha⟩ (CompTurn.of ?_) ?_
    · intro C fp i v ys m2 news1 h8 tk8 own oC hi hP hJ hyl hnf hown hCf hnone hns hmx F8 N8
      obtain ⟨out, l', n', rfl, rfl, hol, hpm, hhp, hpw, hle⟩ := hJ
      have hll2 : out.length + l'.length = ns.length := by
        have := hpm.length_eq
        rw [List.length_append] at this
        omega
      obtain ⟨its, x, rfl⟩ : ∃ its x, l' = its ++ [x] := by
        rcases List.eq_nil_or_concat l' with rfl | ⟨its, x, e⟩
        · simp at hll2; omega
        · exact ⟨its, x, by simpa using e⟩
      refine tests_nil ?_
      simp only [if_true, List.cons_append] at N8 ⊢
      k_steps
      refine Hold.of ?_
      have hHx := N8 _ (.head _)
      have hg0 : ∀ b ∈ [H], g0.get? b = none := fun b hb => by rw [List.mem_singleton.mp hb]; exact hgH
      have neH : ∀ i : It, h8.get? i.a = some i.obj → i.a ≠ H := fun i e q => by
        rw [q, hHx.1] at e
        have e2 := congrArg Obj.cls (Option.some.inj e)
        injection e2 with e3
        exact absurd e3 (by decide)
      have inN : ∀ i ∈ items, h8.get? i.a = some i.obj := fun i hi => (N8 (pairOf i) (.tail _ (.tail _ (List.mem_append_left _ (List.mem_map_of_mem hi))))).1
      have inL : ∀ i ∈ its ++ [x], h8.get? i.a = some i.obj := fun i hi => inN i (hpm.mem_iff.mp (List.mem_append_right _ hi))
      refine pop_spec w _ _ _ _ _ _ _ H n' its x (gr_hide X T F8 [H] hg0) hHx.1 (fun i hi => ⟨inL i hi, neH i (inL i hi)⟩) (by simp at hll2; omega) (by show dp + 1 + 3 < _; omega) (by show un + 3 + 50 < _; omega) ?_
      intro h9 tk9 e9 hH9
      have F9 := fr_after F8 e9 hg0 (fun hb => hHx.2.1 (List.mem_singleton.mp hb).symm)
      obtain ⟨pp1, pp2, pp3⟩ := pop_heap hhp
      have N9 : News g0 L h9 ((H, listOf (refs (popRest its x)).toArray (n' + 1)) :: (L + 1, o2) :: items.map pairOf ++ own) := by
        intro p hp
        rw [List.cons_append] at hp
        rcases List.mem_cons.mp hp with rfl | hp
        · exact ⟨hH9, hHx.2⟩
        · have hp' : p ∈ (H, listOf (refs (its ++ [x])).toArray n') :: (L + 1, o2) :: (items.map pairOf ++ (C, oC) :: own) := by
            simp only [List.cons_append, List.mem_append, List.mem_cons] at hp ⊢
            rcases hp with h | h | h <;> simp [h]
          refine ⟨e9 _ _ ?_ (N8 p hp').1, (N8 p hp').2⟩
          intro q
          have q := List.mem_singleton.mp q
          simp only [List.cons_append, List.mem_append, List.mem_cons] at hp
          rcases hp with rfl | h | h
          · exact absurd q (Nat.ne_of_lt hll.1)
          · obtain ⟨j, hj, rfl⟩ := List.mem_map.mp h
            exact neH j (inN j hj) q
          · exact hnf _ (.head _) (by show H ∈ fp; rw [← q]; exact hown p h)
      change CompStep g0 L (kstB m1 [(Str.ofString "answers", Value.ref La)]) fp own _ _ _
      refine ⟨_, _, (H, listOf (refs (popRest its x)).toArray (n' + 1)) :: (L + 1, o2) :: items.map pairOf, rfl, F9, N9, ?_, out ++ [its.headD x], popRest its x, n' + 1, by simp [refs], rfl, by rw [List.length_append, hol]; rfl, ?_, pp1, ?_, ?_⟩
      · intro p hp
        rcases List.mem_cons.mp hp with rfl | hp
        · exact hnf (H, listOf (refs (its ++ [x])).toArray n') (.head _)
        · exact hnf p (.tail _ hp)
      · rw [List.append_assoc]
        exact (pp2.append_left out).trans hpm
      · rw [List.pairwise_append]
        refine ⟨hpw, List.pairwise_singleton _ _, fun a ha b hb => ?_⟩
        rw [List.mem_singleton.mp hb]
        exact hle a ha _ (pp2.mem_iff.mp (.head _))
      · intro a ha b hb
        rcases List.mem_append.mp ha with ha | ha
        · exact hle a ha b (pp2.mem_iff.mp (.tail _ hb))
        · rw [List.mem_singleton.mp ha]; exact pp3 b hb
    · intro D nD ys news1 h8 tk8 hJ hks hkD hnD F8 N8
      obtain ⟨out, l', n', rfl, rfl, hol, hpm, hhp, hpw, hle⟩ := hJ
      have hl0 : l' = [] := by
        have := hpm.length_eq
        rw [List.length_append] at this
        exact List.eq_nil_of_length_eq_zero (by omega)
      subst hl0
      rw [List.append_nil] at hpm
      have fresh : ∀ b, b ≠ La → g0.get? b = none → s.heap.get? b = none := fun b hb e => by
        cases hs : s.heap.get? b with
        | none => rfl
        | some o => rw [hext b o (by simpa using hb) hs] at e; cases e
      have hDn := N8 _ (.head _)
      refine hQ h8 tk8 D nD out items ?_ (fresh D (Ne.symm (hkD La (.head _))) hDn.2.2) hDn.1 ?_ ⟨hil, hit⟩ hpm hpw
      · intro b o _ e
        by_cases hb : b = La
        · subst hb
          rw [hLa] at e
          cases e
          exact hks _ (.head _) _ (hk7 _ _ hLaAt)
        · exact F8.keep b o (hext b o (by simpa using hb) e)
      · intro i hi
        have hi' : i ∈ items := hpm.mem_iff.mp hi
        have q := N8 (pairOf i) (.tail _ (.tail _ (.tail _ (List.mem_map_of_mem hi'))))
        exact ⟨q.1, fresh i.a (notLa i (N6 (pairOf i) (.tail _ (.tail _ (List.mem_map_of_mem hi')))).1) q.2.2⟩
end Mine
end
section
open PySem PySem.W PyProof.Rows
namespace Mine

section
variable (O : KeyOrd) (key : Nat → O.α) (n₀ : Nat)
def Ok {α : Type} : KasT α → (α → Prop) → Prop
  | .ret a, Q => Q a
  | .ask i j k, Q => i < n₀ ∧ j < n₀ ∧ Ok (k (O.blt (key i) (key j))) Q
variable {O key n₀}
theorem Ok.bind {α β : Type} {f : α → KasT β} {Q : β → Prop} : ∀ {t : KasT α}, Ok O key n₀ t (fun a => Ok O key n₀ (f a) Q) → Ok O key n₀ (t.bind f) Q
  | .ret _, h => h
  | .ask _ _ _, h => ⟨h.1, h.2.1, Ok.bind h.2.2⟩
theorem Ok.mono {α : Type} {Q Q' : α → Prop} (hq : ∀ a, Q a → Q' a) : ∀ {t : KasT α}, Ok O key n₀ t Q → Ok O key n₀ t Q'
  | .ret _, h => hq _ h
  | .ask _ _ _, h => ⟨h.1, h.2.1, Ok.mono hq h.2.2⟩

def KN (O : KeyOrd) (key : Nat → O.α) (p : Array Nat) (i : Nat) : O.α := key (p.getD i 0)
def SortedN (O : KeyOrd) (key : Nat → O.α) (p : Array Nat) (k : Nat) : Prop := ∀ i j, i ≤ j → j < k → O.kle (KN O key p i) (KN O key p j)
def NonIncN (O : KeyOrd) (key : Nat → O.α) (p : Array Nat) (k : Nat) : Prop := ∀ i j, i ≤ j → j < k → O.kle (KN O key p j) (KN O key p i)
def Good (n₀ : Nat) (p : Array Nat) : Prop := p.toList.Perm (List.range n₀)

theorem Good.size {p : Array Nat} (h : Good n₀ p) : p.size = n₀ := by have := h.length_eq; simpa using this
theorem Good.lt {p : Array Nat} (h : Good n₀ p) (hn : 0 < n₀) (i : Nat) : p.getD i 0 < n₀ := by
  rw [Array.getD_eq_getD_getElem?]
  by_cases hi : i < p.size
  · rw [Array.getElem?_eq_getElem hi]
    have : p[i] ∈ p.toList := by simp
    exact List.mem_range.mp (h.mem_iff.mp this)
  · rw [Array.getElem?_eq_none (by omega)]; exact hn
theorem Good.perm {p q : Array Nat} (h : Good n₀ p) (hq : q.Perm p) : Good n₀ q := (Array.perm_iff_toList_perm.mp hq).trans h

theorem KN_congr {p q : Array Nat} {i j : Nat} (h : p[i]? = q[j]?) : KN O key p i = KN O key q j := by
  unfold KN; rw [Array.getD_eq_getD_getElem?, Array.getD_eq_getD_getElem?, h]
theorem KN_bubble {p : Array Nat} {src d : Nat} (hs : src < p.size) (hd : d ≤ src) (k : Nat) :
    KN O key (bubble p src d) k = if k = src - d then KN O key p src else if src - d < k ∧ k ≤ src then KN O key p (k - 1) else KN O key p k := by
  have e := getElem?_bubble hs d hd k
  by_cases h1 : k = src - d
  · rw [if_pos h1] at e ⊢; exact KN_congr e
  · rw [if_neg h1] at e ⊢
    by_cases h2 : src - d < k ∧ k ≤ src
    · rw [if_pos h2] at e ⊢; exact KN_congr e
    · rw [if_neg h2] at e ⊢; exact KN_congr e
theorem KN_rev {p : Array Nat} {i j : Nat} (hj : j ≤ p.size) (k : Nat) :
    KN O key (kas_rev p i j) k = if i ≤ k ∧ k < j then KN O key p (i + j - 1 - k) else KN O key p k := by
  have e := getElem?_mirror_all (i := i) hj k
  unfold kas_rev
  by_cases h1 : i ≤ k ∧ k < j
  · rw [if_pos h1] at e ⊢; exact KN_congr e
  · rw [if_neg h1] at e ⊢; exact KN_congr e
theorem KN_rev_equal {p : Array Nat} {i j : Nat} (hj : j ≤ p.size) (heq : ∀ k, i ≤ k → k < j → KN O key p k = KN O key p (j - 1)) (k : Nat) : KN O key (kas_rev p i j) k = KN O key p k := by
  rw [KN_rev hj]
  split
  · rw [heq _ (by omega) (by omega), heq k (by omega) (by omega)]
  · rfl
theorem good_rev {p : Array Nat} (h : Good n₀ p) (i j : Nat) : Good n₀ (kas_rev p i j) := h.perm (mirror_perm _ _ _ _)

variable (hn : 0 < n₀)
include hn
theorem ok_ask {α : Type} {p : Array Nat} {a b : Nat} {k : Bool → KasT α} {Q : α → Prop} (hp : Good n₀ p) (h : Ok O key n₀ (k (O.blt (KN O key p a) (KN O key p b))) Q) : Ok O key n₀ (.ask (p.getD a 0) (p.getD b 0) k) Q := ⟨hp.lt hn a, hp.lt hn b, h⟩

theorem ok_asc {p : Array Nat} {Q : Nat → Prop} (hp : Good n₀ p) : ∀ (f a : Nat), 1 ≤ a → SortedN O key p a →
    (∀ m, a ≤ m → m ≤ a + f → SortedN O key p m → (m = a + f ∨ O.klt (KN O key p m) (KN O key p (m - 1))) → Q m) → Ok O key n₀ (kas_asc p f a) Q
  | 0, a, _, hs, h => h a (Nat.le_refl _) (Nat.le_refl _) hs (.inl rfl)
  | f + 1, a, ha, hs, h => by
    refine ok_ask hn hp ?_
    cases hless : O.blt (KN O key p a) (KN O key p (a - 1))
    case true =>
      simp only [if_true]
      exact h a (Nat.le_refl _) (by omega) hs (.inr hless)
    case false =>
      simp only [Bool.false_eq_true, if_false]
      refine ok_asc hp f (a + 1) (by omega) (fun i j hij hj => ?_) fun m h1 h2 h3 h4 => h m (by omega) (by omega) h3 (h4.imp (fun e => by omega) fun e => e)
      by_cases hjx : j < a
      · exact hs i j hij hjx
      · have hj' : j = a := by omega
        subst hj'
        by_cases hi' : i = j
        · subst hi'; exact KeyOrd.kle_refl _
        · exact KeyOrd.kle_trans (hs i (j - 1) (by omega) (by omega)) hless

theorem ok_tail3 {p : Array Nat} {n nrem : Nat} {Q : Nat × Array Nat → Prop} (hp : Good n₀ p) (h1 : 1 ≤ n) (hnn : n ≤ nrem) (hr : nrem ≤ n₀) (hs : NonIncN O key p n)
    (h : ∀ m q, Good n₀ q → 1 ≤ m → m ≤ nrem → SortedN O key q m → Q (m, q)) : Ok O key n₀ (kas_tail3 n nrem p) Q := by
  unfold kas_tail3
  have hsz : n ≤ p.size := by rw [hp.size]; omega
  have hp' := good_rev hp 0 n
  refine Ok.bind (ok_asc hn hp' _ n h1 ?_ fun m hm1 hm2 hsm _ => h m _ hp' (by omega) (by omega) hsm)
  intro i j hij hj
  rw [KN_rev hsz, KN_rev hsz, if_pos (by omega), if_pos (by omega)]
  exact hs _ _ (by omega) (by omega)

theorem ok_desc {Q : Array Nat × Nat × Nat → Prop} : ∀ (f : Nat) (p : Array Nat) (x neq : Nat), Good n₀ p → 1 ≤ x → x + f ≤ n₀ → NonIncN O key p x → neq + 1 ≤ x → (∀ i, x - (neq + 1) ≤ i → i < x → KN O key p i = KN O key p (x - 1)) →
    (∀ q m neq', Good n₀ q → x ≤ m → m ≤ x + f → NonIncN O key q m → neq' + 1 ≤ m → (∀ i, m - (neq' + 1) ≤ i → i < m → KN O key q i = KN O key q (m - 1)) → Q (q, m, neq')) → Ok O key n₀ (kas_desc f p x neq) Q
  | 0, p, x, neq, hp, _, _, hs, hq, he, h => h p x neq hp (Nat.le_refl _) (Nat.le_refl _) hs hq he
  | f + 1, p, x, neq, hp, h1, hf, hs, hq, he, h => by
    refine ok_ask hn hp ?_
    have hsz : x ≤ p.size := by rw [hp.size]; omega
    cases hless : O.blt (KN O key p x) (KN O key p (x - 1))
    case true =>
      simp only [if_true]
      have step1 : ∀ xs : Array Nat, (∀ k, KN O key xs k = KN O key p k) → NonIncN O key xs (x + 1) := by
        intro xs hk i j hij hj
        rw [hk, hk]
        by_cases hjx : j < x
        · exact hs i j hij hjx
        · have hj' : j = x := by omega
          subst hj'
          by_cases hi' : i = j
          · subst hi'; exact KeyOrd.kle_refl _
          · exact KeyOrd.kle_trans (KeyOrd.kle_of_klt hless) (hs i (j - 1) (by omega) (by omega))
      have go : ∀ q m neq', Good n₀ q → x + 1 ≤ m → m ≤ x + 1 + f → NonIncN O key q m → neq' + 1 ≤ m → (∀ i, m - (neq' + 1) ≤ i → i < m → KN O key q i = KN O key q (m - 1)) → Q (q, m, neq') := fun q m neq' a b c d e f => h q m neq' a (by omega) (by omega) d e f
      by_cases hneq : neq > 0
      · rw [if_pos hneq]
        exact ok_desc f _ (x + 1) 0 (good_rev hp _ _) (by omega) (by omega) (step1 _ (KN_rev_equal hsz he)) (by omega) (fun i h1 h2 => by congr 1; omega) go
      · rw [if_neg hneq]
        exact ok_desc f _ (x + 1) 0 hp (by omega) (by omega) (step1 _ (fun _ => rfl)) (by omega) (fun i h1 h2 => by congr 1; omega) go
    case false =>
      simp only [Bool.false_eq_true, if_false]
      refine ok_ask hn hp ?_
      cases hlarger : O.blt (KN O key p (x - 1)) (KN O key p x)
      case true =>
        simp only [if_true]
        exact h p x neq hp (Nat.le_refl _) (by omega) hs hq he
      case false =>
        simp only [Bool.false_eq_true, if_false]
        have heqx : KN O key p x = KN O key p (x - 1) := KeyOrd.kle_antisymm hlarger hless
        refine ok_desc f p (x + 1) (neq + 1) hp (by omega) (by omega) (fun i j hij hj => ?_) (by omega) (fun i h1 h2 => ?_) (fun q m neq' a b c d e f => h q m neq' a (by omega) (by omega) d e f)
        · by_cases hjx : j < x
          · exact hs i j hij hjx
          · have hj' : j = x := by omega
            subst hj'
            by_cases hi' : i = j
            · subst hi'; exact KeyOrd.kle_refl _
            · rw [heqx]; exact hs i (j - 1) (by omega) (by omega)
        · rw [show x + 1 - 1 = x by omega]
          by_cases hix : i = x
          · subst hix; rfl
          · rw [heqx]; exact he i (by omega) (by omega)

theorem ok_descPart {p : Array Nat} {n nrem : Nat} {Q : Nat × Array Nat → Prop} (hp : Good n₀ p) (hnn : n + 1 ≤ nrem) (hr : nrem ≤ n₀) (hs : NonIncN O key p (n + 1))
    (h : ∀ m q, Good n₀ q → 1 ≤ m → m ≤ nrem → SortedN O key q m → Q (m, q)) : Ok O key n₀ (kas_descPart n nrem p) Q := by
  unfold kas_descPart
  refine Ok.bind (ok_desc hn _ p (n + 1) 0 hp (by omega) (by omega) hs (by omega) (fun i h1 h2 => by congr 1; omega) fun q m neq hq hm1 hm2 hs' hle he => ?_)
  dsimp only
  have hsz : m ≤ q.size := by rw [hq.size]; omega
  by_cases hneq : neq > 0
  · rw [if_pos hneq]
    refine ok_tail3 hn (good_rev hq _ _) (by omega) (by omega) hr ?_ h
    intro i j hij hj
    rw [KN_rev_equal hsz he, KN_rev_equal hsz he]
    exact hs' i j hij hj
  · rw [if_neg hneq]
    exact ok_tail3 hn hq (by omega) (by omega) hr hs' h

theorem ok_count {p : Array Nat} {nrem : Nat} {Q : Nat × Array Nat → Prop} (hp : Good n₀ p) (h1 : 1 ≤ nrem) (hr : nrem ≤ n₀)
    (h : ∀ m q, Good n₀ q → 1 ≤ m → m ≤ nrem → SortedN O key q m → Q (m, q)) : Ok O key n₀ (kas_count nrem p) Q := by
  unfold kas_count
  refine Ok.bind (ok_asc hn hp (nrem - 1) 1 (Nat.le_refl 1) (fun i j hij hj => by have : i = j := (by omega); subst this; exact KeyOrd.kle_refl _) fun n hn1 hn2 hsn hor => ?_)
  by_cases hnn : n = nrem
  · rw [if_pos (by simpa using hnn)]
    exact h n p hp hn1 (by omega) hsn
  · rw [if_neg (by simpa using hnn)]
    have hlt : O.klt (KN O key p n) (KN O key p (n - 1)) := hor.resolve_left (by omega)
    by_cases hgt : n > 1
    · rw [if_pos hgt]
      refine ok_ask hn hp ?_
      cases hrose : O.blt (KN O key p 0) (KN O key p (n - 1))
      case true =>
        simp only [if_true]
        exact h n p hp hn1 (by omega) hsn
      case false =>
        simp only [Bool.false_eq_true, if_false]
        have hsz : n ≤ p.size := by rw [hp.size]; omega
        have hall : ∀ k, 0 ≤ k → k < n → KN O key p k = KN O key p (n - 1) := by
          intro k _ hk
          have a1 := hsn 0 k (by omega) hk
          have a2 := hsn k (n - 1) (by omega) (by omega)
          exact KeyOrd.kle_antisymm a2 (KeyOrd.kle_trans hrose a1)
        refine ok_descPart hn (good_rev hp _ _) (by omega) hr ?_ h
        intro i j hij hj
        rw [KN_rev_equal hsz hall, KN_rev_equal hsz hall]
        by_cases hjn : j < n
        · rw [hall i (by omega) (by omega), hall j (by omega) hjn]; exact KeyOrd.kle_refl _
        · have hj' : j = n := by omega
          subst hj'
          by_cases hi' : i = j
          · subst hi'; exact KeyOrd.kle_refl _
          · rw [hall i (by omega) (by omega)]; exact KeyOrd.kle_of_klt hlt
    · rw [if_neg hgt]
      have hn1' : n = 1 := by omega
      subst hn1'
      refine ok_descPart hn hp (by omega) hr ?_ h
      intro i j hij hj
      by_cases hi' : i = j
      · subst hi'; exact KeyOrd.kle_refl _
      · have hi0 : i = 0 := by omega
        have hj1 : j = 1 := by omega
        subst hi0; subst hj1
        exact KeyOrd.kle_of_klt hlt

theorem ok_place {p : Array Nat} {k : Nat} {Q : Nat → Prop} (hp : Good n₀ p) (hs : SortedN O key p k) (h : ∀ l, l ≤ k → (∀ i, i < l → O.kle (KN O key p i) (KN O key p k)) → (∀ i, l ≤ i → i < k → O.klt (KN O key p k) (KN O key p i)) → Q l) :
    ∀ (f l r : Nat), l ≤ r → r ≤ k → r - l ≤ f → (∀ i, i < l → O.kle (KN O key p i) (KN O key p k)) → (∀ i, r ≤ i → i < k → O.klt (KN O key p k) (KN O key p i)) → Ok O key n₀ (kas_place p k f l r) Q
  | 0, l, r, hlr, hrk, hm, hlo, hhi => by
    have : l = r := by omega
    subst this
    exact h l hrk hlo hhi
  | f + 1, l, r, hlr, hrk, hm, hlo, hhi => by
    unfold kas_place
    by_cases hge : l ≥ r
    · rw [if_pos hge]
      have : l = r := by omega
      subst this
      exact h l hrk hlo hhi
    · rw [if_neg hge]
      refine ok_ask hn hp ?_
      cases hless : O.blt (KN O key p k) (KN O key p ((l + r) / 2))
      case true =>
        simp only [if_true]
        refine ok_place hp hs h f l ((l + r) / 2) (by omega) (by omega) (by omega) hlo fun i h1 h2 => ?_
        exact KeyOrd.klt_of_klt_of_kle hless (hs _ _ h1 h2)
      case false =>
        simp only [Bool.false_eq_true, if_false]
        refine ok_place hp hs h f ((l + r) / 2 + 1) r (by omega) (by omega) (by omega) (fun i h1 => ?_) hhi
        exact KeyOrd.kle_trans (hs i ((l + r) / 2) (by omega) (by omega)) (show O.kle _ _ from hless)

theorem ok_bin {Q : Array Nat → Prop} : ∀ (f : Nat) (p : Array Nat) (k : Nat), Good n₀ p → k + f = n₀ → SortedN O key p k → (∀ q, Good n₀ q → SortedN O key q n₀ → Q q) → Ok O key n₀ (kas_bin f p k) Q
  | 0, p, k, hp, hk, hs, h => h p hp (by rw [← hk]; exact hs)
  | f + 1, p, k, hp, hk, hs, h => by
    unfold kas_bin
    refine Ok.bind (ok_place hn hp hs (fun l hlk hlo hhi => ?_) k 0 k (by omega) (Nat.le_refl _) (by omega) (fun i hi => by omega) (fun i h1 h2 => by omega))
    refine ok_bin f _ (k + 1) (hp.perm (bubble_perm _ _ _)) (by omega) ?_ h
    have hks : k < p.size := by rw [hp.size]; omega
    intro i j hij hj
    rw [KN_bubble hks (by omega), KN_bubble hks (by omega), show k - (k - l) = l by omega]
    repeat' split
    all_goals first
      | (exfalso; omega)
      | exact KeyOrd.kle_refl _
      | exact hlo _ (by omega)
      | exact KeyOrd.kle_of_klt (hhi _ (by omega) (by omega))
      | exact hs _ _ (by omega) (by omega)

/-- the sort's questions, answered by an order, end in order -/
theorem ok_sort {Q : Array Nat → Prop} (h : ∀ q, Good n₀ q → SortedN O key q n₀ → Q q) : Ok O key n₀ (kas_sort n₀) Q := by
  unfold kas_sort
  refine Ok.bind (ok_count hn (by show ((List.range n₀).toArray).toList.Perm _; exact List.Perm.refl _) hn (Nat.le_refl _) fun m q hq h1 h2 hs => ?_)
  dsimp only
  by_cases hm : m < n₀
  · rw [if_pos hm]
    refine ok_bin hn _ q (max m 1) hq (by omega) ?_ h
    rw [show max m 1 = m by omega]; exact hs
  · rw [if_neg hm]
    have : m = n₀ := by omega
    subst this
    exact h q hq hs
end

theorem kas_of_ok {O : KeyOrd} {key : Nat → O.α} {n₀ : Nat} {α : Type} {cmp : Nat → Nat → (Bool → Shared → Prop) → Shared → Prop} {s : Shared} {Q : α → Shared → Prop}
    (hc : ∀ i j (K : Bool → Shared → Prop) tk, i < n₀ → j < n₀ → (∀ tk', K (O.blt (key i) (key j)) { s with toks := tk' }) → cmp i j K { s with toks := tk }) :
    ∀ (t : KasT α) (tk : Nat), Ok O key n₀ t (fun a => ∀ tk', Q a { s with toks := tk' }) → t.kasWp cmp Q { s with toks := tk }
  | .ret a, tk, h => h tk
  | .ask i j k, tk, h => hc i j _ tk h.1 h.2.1 fun tk' => kas_of_ok hc (k _) tk' h.2.2
end Mine
end
section
open PySem PySem.W PyProof.Rows PySem.Calls PySem.Spec
namespace Mine

/-- a tuple of a number and octets -/
structure Pt where
  a : Addr
  n : Int
  b : List UInt8
  tn : Tok
  tb : Tok
abbrev Pt.obj (p : Pt) : Obj := { cls := .type "tuple", data := .seq #[.int p.n p.tn, .bytes p.b.toArray p.tb] }
abbrev ptPair (p : Pt) : Addr × Obj := (p.a, p.obj)
def ptRefs (l : List Pt) : List Value := l.map fun p => .ref p.a

def pblt (x y : Int × List UInt8) : Bool := if x.1 = y.1 then decide (x.2 < y.2) else decide (x.1 < y.1)
theorem pblt_iff (x y : Int × List UInt8) : pblt x y = true ↔ x.1 < y.1 ∨ (x.1 = y.1 ∧ x.2 < y.2) := by
  unfold pblt
  split
  · rename_i h; rw [decide_eq_true_iff]
    constructor
    · exact fun q => .inr ⟨h, q⟩
    · rintro (q | q)
      · omega
      · exact q.2
  · rename_i h; rw [decide_eq_true_iff]
    constructor
    · exact .inl
    · rintro (q | q)
      · exact q
      · exact absurd q.1 h
theorem pblt_false (x y : Int × List UInt8) : pblt x y = false ↔ y.1 < x.1 ∨ (y.1 = x.1 ∧ y.2 ≤ x.2) := by
  rw [Bool.eq_false_iff, Ne, pblt_iff]
  constructor
  · intro h
    rw [not_or] at h
    rcases Int.lt_trichotomy x.1 y.1 with q | q | q
    · exact absurd q h.1
    · exact .inr ⟨q.symm, List.not_lt.mp fun r => h.2 ⟨q, r⟩⟩
    · exact .inl q
  · rintro (h | ⟨h, h'⟩)
    · rintro (q | ⟨q, _⟩) <;> omega
    · rintro (q | ⟨_, q⟩)
      · omega
      · exact List.not_lt.mpr h' q
def ptOrd : KeyOrd where
  α := Int × List UInt8
  blt := pblt
  irrefl := fun a => by
    rw [pblt_false]; exact .inr ⟨rfl, List.not_lt.mp (List.lt_irrefl _)⟩
  trans := fun a b c h1 h2 => by
    rw [pblt_iff] at *
    rcases h1 with h1 | ⟨h1, q1⟩
    · rcases h2 with h2 | ⟨h2, _⟩
      · exact .inl (by omega)
      · exact .inl (by omega)
    · rcases h2 with h2 | ⟨h2, q2⟩
      · exact .inl (by omega)
      · exact .inr ⟨h1.trans h2, List.lt_trans q1 q2⟩
  negTrans := fun a b c h => by
    cases h1 : pblt a b with
    | true => exact .inl rfl
    | false =>
      refine .inr ?_
      rw [pblt_false] at h1
      rw [pblt_iff] at h ⊢
      rcases h1 with h1 | ⟨h1, q1⟩
      · rcases h with h | ⟨h, _⟩
        · exact .inl (by omega)
        · exact .inl (by omega)
      · rcases h with h | ⟨h, q⟩
        · exact .inl (by omega)
        · exact .inr ⟨h1.trans h, List.lt_of_le_of_lt q1 q⟩
  total := fun a b h1 h2 => by
    rw [pblt_false] at h1 h2
    rcases h1 with h1 | ⟨h1, q1⟩
    · rcases h2 with h2 | ⟨h2, _⟩ <;> omega
    · rcases h2 with h2 | ⟨_, q2⟩
      · omega
      · exact Prod.ext h1.symm (List.le_antisymm q2 q1)
def Pt.key (p : Pt) : Int × List UInt8 := (p.n, p.b)
def pd0 : Pt := ⟨0, 0, [], 0, 0⟩

section
variable {prog : Program} {w : World} {A : Around} {E : Value → Shared → Prop} {s : Shared} {h₀ : Heap} {L : Addr} {m : Str → Option Value} {news : List (Addr × Obj)}
theorem key_lt {p q : Pt} {Q : Bool → Shared → Prop} (hp : s.heap.get? p.a = some p.obj) (hq : s.heap.get? q.a = some q.obj) (h : ∀ tk, Q (pblt p.key q.key) { s with toks := tk }) :
    wpAny (model prog w) A (keyLt' (tuples' true) (.ref p.a) (.ref q.a)) Q E s := by
  refine kat_lt (xs := #[.int p.n p.tn, .bytes p.b.toArray p.tb]) (ys := #[.int q.n q.tn, .bytes q.b.toArray q.tb]) hp rfl hq rfl ?_
  refine kat_cons (wpAny_eqBool_int ?_)
  by_cases e : p.n = q.n
  · have e' : (p.n == q.n) = true := by rw [e]; exact beq_self_eq_true _
    rw [e']
    refine kat_yes (kat_cons (eqBool_bytes ?_))
    by_cases e2 : p.b = q.b
    · have : decide (p.b.toArray.toList = q.b.toArray.toList) = true := decide_eq_true e2
      rw [this]
      refine kat_yes (kat_nil ?_)
      have := h s.toks
      have hk : pblt p.key q.key = false := by rw [pblt_false]; exact .inr ⟨e.symm, by show q.b ≤ p.b; rw [e2]; exact List.not_lt.mp (List.lt_irrefl _)⟩
      rw [hk] at this
      exact this
    · have : decide (p.b.toArray.toList = q.b.toArray.toList) = false := decide_eq_false e2
      rw [this]
      refine kat_no ?_
      show wpAny (model prog w) A (oneLt' false (.bytes p.b.toArray p.tb) (.bytes q.b.toArray q.tb)) Q (fun _ _ => False) s
      refine kat_one _ _ (lt_bytes ?_)
      show Q (decide (p.b < q.b)) s
      have := h s.toks
      have hk : pblt p.key q.key = decide (p.b < q.b) := if_pos e
      rw [hk] at this
      exact this
  · have e' : (p.n == q.n) = false := beq_eq_false_iff_ne.mpr e
    rw [e']
    refine kat_no ?_
    show wpAny (model prog w) A (oneLt' true (.int p.n p.tn) (.int q.n q.tn)) Q (fun _ _ => False) s
    refine oneLt_int ?_
    have := h s.toks
    have hk : pblt p.key q.key = decide (p.n < q.n) := if_neg e
    rw [hk] at this
    exact this

theorem katTups_of {h : Heap} : ∀ (pts : List Pt), (∀ p ∈ pts, h.get? p.a = some p.obj) → KatTups h (ptRefs pts) (pts.map fun p => .int p.n p.tn)
  | [], _ => KatTups.nil
  | p :: r, hp => KatTups.cons (hp p (.head _)) rfl rfl rfl (katTups_of r fun q hq => hp q (.tail _ hq))

theorem sorted_wp {l : Addr} {pts : List Pt} {Q : Value → Shared → Prop} (F : Fr h₀ L s.heap m) (N : News h₀ L s.heap news) (hl : s.heap.IsList l (ptRefs pts).toArray) (hin : ∀ p ∈ pts, ptPair p ∈ news) (h2 : 2 ≤ pts.length) (h64 : pts.length < 64)
    (h : ∀ D c h' tk out, Fr h₀ L h' m → News h₀ L h' ((D, listOf (ptRefs out).toArray c) :: news) → (∀ q ∈ news, q.1 < D) → out.Perm pts → out.Pairwise (fun x y => pblt y.key x.key = false) → Q (.ref D) { s with heap := h', toks := tk }) :
    wpAny (model prog w) A (call (.builtin "sorted") [.ref l]) Q E s := by
  have hlen : (ptRefs pts).length = pts.length := by simp [ptRefs]
  refine kat_sorted F N hl (by omega) (by omega) ?_
  intro D e1 h' F' N' hlt
  have at' : ∀ p ∈ pts, h'.get? p.a = some p.obj := fun p hp => (N' (ptPair p) (.tail _ (hin p hp))).1
  refine kat_kind (T := .type "int") (katTups_of pts at') (by simp; omega) ?_ rfl ?_
  · intro v hv
    obtain ⟨p, hp, rfl⟩ := List.mem_map.mp hv
    exact Looks.now
  show (kas_sort (ptRefs pts).length).kasWp (kas_ask prog w A.in1.in1 (tuples' true) (ptRefs pts)) _ { s with heap := h' }
  rw [hlen]
  have getr : ∀ i, i < pts.length → (ptRefs pts).getD i .none = .ref (pts.getD i pd0).a ∧ pts.getD i pd0 ∈ pts := fun i hi => by
    unfold ptRefs
    rw [List.getD_eq_getElem?_getD, List.getElem?_map, List.getD_eq_getElem?_getD, List.getElem?_eq_getElem hi]
    exact ⟨rfl, List.getElem_mem hi⟩
  refine kas_of_ok (O := ptOrd) (key := fun i => (pts.getD i pd0).key) (n₀ := pts.length) (s := { s with heap := h' }) ?_ _ s.toks ?_
  · intro i j K tk hi hj hK
    unfold kas_ask
    obtain ⟨e1, m1⟩ := getr i hi
    obtain ⟨e2, m2⟩ := getr j hj
    rw [e1, e2]
    exact key_lt (s := { s with heap := h', toks := tk }) (at' _ m1) (at' _ m2) fun tk' => hK tk'
  · refine ok_sort (by omega) fun q hq hs tk' => ?_
    refine KasFin.intro (news := (D, seqObj "list" #[] e1) :: news) (g := fun o => (D, o) :: news) F' N' (UpdF.head fun p hp => Nat.ne_of_lt (hlt p hp)) ?_
    intro h'' c F'' N''
    have eo : (q.toList.map fun i => (ptRefs pts).getD i .none) = ptRefs (q.toList.map fun i => pts.getD i pd0) := by
      unfold ptRefs
      rw [List.map_map]
      refine List.map_congr_left fun i hi => ?_
      have : i < pts.length := List.mem_range.mp (hq.mem_iff.mp hi)
      exact (getr i this).1
    rw [eo] at N''
    refine h D c h'' tk' _ F'' N'' hlt ?_ ?_
    · have e := hq.map (fun i => pts.getD i pd0)
      have e2 : (List.range pts.length).map (fun i => pts.getD i pd0) = pts := by
        apply List.ext_getElem
        · simp
        · intro i h1 h2
          simp [List.getD_eq_getElem?_getD, h2]
      rwa [e2] at e
    · rw [List.pairwise_iff_getElem]
      intro i j hi hj hij
      rw [List.length_map] at hi hj
      have := hs i j (by omega) (by rw [← hq.size]; simpa using hj)
      unfold KN at this
      rw [List.getElem_map, List.getElem_map]
      have g1 : q.getD i 0 = q.toList[i] := by rw [Array.getD_eq_getD_getElem?, ← Array.getElem?_toList, List.getElem?_eq_getElem hi]; rfl
      have g2 : q.getD j 0 = q.toList[j] := by rw [Array.getD_eq_getD_getElem?, ← Array.getElem?_toList, List.getElem?_eq_getElem hj]; rfl
      rw [g1, g2] at this
      exact this
end
end Mine
end
section
theorem Mine.offDU : True := by
  w_top off
  trivial
open PySem PySem.W PyProof.Rows PySem.Calls PySem.Spec
namespace Mine

/-- the nine signs -/
def sign (x k : Nat) : Str := if x / 2 ^ (8 - k) % 2 = 1 then (match k % 3 with | 0 => Str.ofString "r" | 1 => Str.ofString "w" | _ => Str.ofString "x") else Str.ofString "-"
def signs (x i : Nat) : List Str := (List.range i).map (sign x)
def dueS (x : Nat) : Str := Str.ofString "-" ++ Txt.join Str.empty (signs x 9)

structure DueBy (ns : List Int) (out : List It) : Prop where
  ex : ∃ pts : List Pt, pts.length = ns.length ∧ (∀ k n p, ns[k]? = some n → pts[k]? = some p → p.n = (low9 n : Int) ∧ p.b = apLoop (37 * k) []) ∧
    ∃ pile : List Pt, pile.Perm pts ∧ pile.Pairwise (fun x y => pblt y.key x.key = false) ∧ out.map (fun i => (i.s, i.b)) = pile.map fun p => (dueS p.n.toNat, p.b.toArray)

theorem ints_get : ∀ {vs : List Value} {ns : List Int}, IntsAre vs ns → ∀ {i : Nat} {n : Int}, ns[i]? = some n → ∃ t, vs[i]? = some (.int n t)
  | _, _, .nil, i, n, e => by simp at e
  | _, _, .cons a t h, i, n, e => by
    cases i with
    | zero => simp at e; subst e; exact ⟨t, rfl⟩
    | succ i => simp at e ⊢; exact ints_get h e

theorem rwx_at (j : Nat) (hj : j < 9) : Txt.item (Str.ofString "rwx") ((j : Int).fmod 3) = (match j % 3 with | 0 => Str.ofString "r" | 1 => Str.ofString "w" | _ => Str.ofString "x") := by
  have all : ∀ k : Fin 9, Txt.item (Str.ofString "rwx") ((k.val : Int).fmod 3) = (match k.val % 3 with | 0 => Str.ofString "r" | 1 => Str.ofString "w" | _ => Str.ofString "x") := by decide +kernel
  exact all ⟨j, hj⟩
theorem sign_len (x k : Nat) : (sign x k).length ≤ 1 := by
  unfold sign
  split
  · split <;> decide
  · decide
theorem signs_len (x : Nat) : (Txt.join Str.empty (signs x 9)).length ≤ 100 := by
  show (Builtin.Str.glued Str.empty (signs x 9)).length ≤ 100
  rw [StrLaws.glued_eq_join]
  refine Nat.le_trans (StrLaws.join_length_le _ _) ?_
  rw [show Str.empty.length = 0 from rfl, Nat.mul_zero, Nat.add_zero]
  have h : ∀ k, ((signs x k).map (·.length)).sum ≤ k := by
    intro k
    induction k with
    | zero => exact Nat.le_refl _
    | succ k ih =>
      unfold signs at *
      rw [List.range_succ, List.map_append, List.map_append, List.sum_append]
      have := sign_len x k
      simp only [List.map_cons, List.map_nil, List.sum_cons, List.sum_nil]
      omega
  exact Nat.le_trans (h 9) (by decide)
theorem signs_weight (x : Nat) : ((signs x 9).map (·.length)).sum + (signs x 9).length ≤ 1048576 := by
  have h : ∀ k, ((signs x k).map (·.length)).sum ≤ k := by
    intro k
    induction k with
    | zero => exact Nat.le_refl _
    | succ k ih =>
      unfold signs at *
      rw [List.range_succ, List.map_append, List.map_append, List.sum_append]
      have := sign_len x k
      simp only [List.map_cons, List.map_nil, List.sum_cons, List.sum_nil]
      omega
  have h1 := h 9
  have h2 : (signs x 9).length = 9 := by simp [signs]
  omega

local macro_rules | `(tactic| walk_at "call ref") => `(tactic| refine Mine.hold ?_)
local macro_rules | `(tactic| walk_at "eval ListComp") => `(tactic| refine Mine.hold ?_)
local macro_rules | `(tactic| walk_at "pyIter ref") => `(tactic| refine Mine.hold ?_)
local macro_rules | `(tactic| walk_at "call builtin:len") => `(tactic| refine Mine.hold ?_)
local macro_rules | `(tactic| walk_at "call builtin:sorted") => `(tactic| refine Mine.hold ?_)
local macro_rules | `(tactic| walk_at "call builtin:str.join") => `(tactic| refine Mine.hold ?_)
theorem fillD : ∀ w : World, (hd.heap_39 w.params) = (hd.heap_39 w.params) ∧ PySem.Challenge.rw_nq0081_01.row.prog = PySem.Challenge.rw_nq0081_01.row.prog := by
  k_fill
  exact fun _ => ⟨rfl, rfl⟩
theorem due_spec : ∀ (w : World) (dp un : Nat) (fr : Option (List Env)) (gd : Option (List Code)) (s : Shared) (Q E : Value → Shared → Prop) (La nn : Nat) (vs : List Value) (ns : List Int),
    Gr w (hideAll s.heap [La]) → s.heap.get? La = some (listOf vs.toArray nn) → IntsAre vs ns → 2 ≤ ns.length → ns.length < 60 → dp + 20 < recursionLimit → un + 100 < cLine →
    (∀ h' tk D nd out, Ext [] s.heap h' → s.heap.get? D = none → h'.get? D = some (listOf (refs out).toArray nd) → (∀ i ∈ out, h'.get? i.a = some i.obj ∧ s.heap.get? i.a = none) → DueBy ns out → Q (.ref D) { s with heap := h', toks := tk }) →
    wpAny (model PySem.Challenge.rw_nq0081_01.row.prog w) (Around.mk none dp fr gd un) (call (.ref 150) [.ref La]) Q E s := by
  intro w dp un fr gd s Q E La nn vs ns g hLa hv hlen2 hlen hdp hun hQ
  refine' enterC [La] [(La, listOf vs.toArray nn)] [(Str.ofString "numbers", .ref La)] g ?hn ?ho ?hcd ?room ?bind ?kin ?nd ?c2 ?c3 ?c4 ?_
  case hn => intro q hq; rw [List.mem_singleton.mp hq]; exact ⟨.head _, hLa⟩
  case ho => k_is
  case hcd => k_is
  case room => omega
  case bind => exact rfl
  case kin => exact rfl
  case nd => decide +kernel
  case c2 => exact rfl
  case c3 => exact rfl
  case c4 => exact rfl
  intro g0 L h1 tk1 cells mean mg mb hext hsub hL X T F N Y
  k_cells Y
  simp only [List.cons_append, List.nil_append] at N
  rename_i o1 d1
  replace d1 : o1.data = .cell (some (.ref La)) := d1
  have hvl : vs.length = ns.length := hv.length
  have hgLa : g0.get? La = none := (N _ (.tail _ (.head _))).2.2
  k_steps
  refine Hold.of ?_
  refine' comp_start ?hclos ?hkind ?hnames ?hrest ?hs
  case hclos => with_unfolding_all rfl
  case hkind => rfl
  case hnames => decide
  case hs => intro _; rfl
  k_steps
  refine Hold.of ?_
  refine len_list (items := vs.toArray) ⟨_, N.get (.tail _ (.head _)), rfl, _, rfl⟩ (by rw [List.size_toArray]; omega) ?_
  rw [List.size_toArray, hvl]
  k_steps
  rename IsRange _ _ _ _ _ _ _ _ => hR
  rename Fr _ _ _ _ => F4
  rename News _ _ _ _ => N4
  refine Hold.of ?_
  refine src_range (k := ns.length) rfl hR (range_ok (by omega)).1 (range_ok (by omega)).2 F4 N4 ?_
  intro I h5 S
  refine compEval S (fun i ys nw => ∃ pts : List Pt, ys = ptRefs pts ∧ nw = (L + 1, o1) :: (La, listOf vs.toArray nn) :: pts.map ptPair ∧ pts.length = i ∧ ∀ k n p, ns[k]? = some n → pts[k]? = some p → p.n = (low9 n : Int) ∧ p.b = apLoop (37 * k) []) (by decide) rfl rfl (by rw [sizeLine_eq]; omega)
    ⟨[], rfl, rfl, rfl, fun k n p _ e => by simp at e⟩ (CompTurn.of2 ?_) ?_
  · intro C fp i v ys m2 news1 h6 tk6 own oC hi hP hJ hyl hnf hown hCf hnone hns hmx F6 N6
    obtain ⟨pts, rfl, rfl, hpl, hpt⟩ := hJ
    obtain ⟨tv, rfl⟩ := hP
    have ei : (0 : Int) + (i : Int) * 1 = (i : Int) := by omega
    rw [ei] at hmx
    refine tests_nil ?_
    simp only [if_true, List.cons_append] at N6 ⊢
    have N7 : News g0 L h6 ((C, oC) :: (L + 1, o1) :: (La, listOf vs.toArray nn) :: (pts.map ptPair ++ own)) := fun p hp => N6 p (by
      simp only [List.mem_cons, List.mem_append] at hp ⊢
      rcases hp with h | h | h | h | h <;> simp [h])
    clear N6
    have hni : ns[i]? = some ns[i] := List.getElem?_eq_getElem hi
    generalize ns[i] = nI at hni
    obtain ⟨tA, hA⟩ := ints_get hv hni
    k_steps
    refine Hold.of ?_
    rw [show (37 : Int) * (i : Int) = ((37 * i : Nat) : Int) by omega]
    refine word_spec w _ _ _ _ _ _ _ (37 * i) _ (Gr.keeps ⟨X, _, _, _, T⟩ F6.keep) (by omega) (by show dp + 1 + 4 < _; omega) (by show un + 3 + 50 < _; omega) ?_
    intro h8 tk8 t8 e8
    have F8 := fr_after F6 e8 (fun b hb => nomatch hb) (fun hb => nomatch hb)
    have N8 := news_after N7 e8 (fun p hp => .inl ⟨hp, fun hb => nomatch hb⟩)
    clear F6 N7
    dsimp only
    k_steps
    rename Fr _ _ _ _ => F9
    rename News _ _ _ _ => N9
    rename_i D9 h9 l9
    have en : (ns.getD (i : Int).toNat 0).fmod 512 = (low9 nI : Int) := by
      rw [Int.toNat_natCast, List.getD_eq_getElem?_getD, hni]
      unfold low9
      show nI.fmod 512 = _
      have : 0 ≤ nI.fmod 512 := by rw [Int.fmod_eq_emod_of_nonneg _ (by decide)]; omega
      omega
    rw [en] at N9
    obtain ⟨x, hx, hxn, hxb, hxo⟩ : ∃ x : Pt, x.a = D9 ∧ x.n = (low9 nI : Int) ∧ x.b = apLoop (37 * i) [] ∧ (D9, x.obj) = (D9, ({ cls := .type "tuple", data := .seq #[.int (low9 nI : Int) (tk6 + 1), .bytes (apLoop (37 * i) []).toArray t8] } : Obj)) := ⟨⟨D9, _, _, tk6 + 1, t8⟩, rfl, rfl, rfl, rfl⟩
    rw [← hxo] at N9
    subst hx
    change CompStep g0 L _ fp own _ _ _
    refine ⟨_, _, (L + 1, o1) :: (La, listOf vs.toArray nn) :: (pts ++ [x]).map ptPair, rfl, F9, (fun p hp => N9 p ?_), ?_, pts ++ [x], by simp [ptRefs], rfl, by rw [List.length_append, hpl]; rfl, ?_⟩
    · simp only [List.cons_append, List.map_append, List.map_cons, List.map_nil, List.mem_append, List.mem_cons, List.not_mem_nil, or_false] at hp ⊢
      rcases hp with h | h | (h | h) | h <;> simp [h]
    · intro p hp
      simp only [List.map_append, List.map_cons, List.map_nil, List.mem_append, List.mem_cons, List.not_mem_nil, or_false] at hp
      rcases hp with rfl | rfl | h | rfl
      · exact hnf _ (.head _)
      · exact hnf _ (.tail _ (.head _))
      · exact hnf _ (.tail _ (.tail _ h))
      · intro hm
        obtain ⟨o, ho⟩ := hnone _ hm (N9 _ (.head _)).2.2
        exact Nat.lt_irrefl _ (allLt_mem l9.2.2.2 _ (List.mem_append_right _ ho))
    · intro k n p hn hp
      rcases Nat.lt_or_ge k pts.length with hk | hk
      · rw [List.getElem?_append_left hk] at hp
        exact hpt k n p hn hp
      · have hk2 : k = i := by
          rcases Nat.lt_or_ge k (pts.length + 1) with h | h
          · omega
          · rw [List.getElem?_eq_none (by simp; omega)] at hp; cases hp
        subst hk2
        rw [List.getElem?_append_right (by omega), hpl, Nat.sub_self] at hp
        cases hp
        rw [hni] at hn
        cases hn
        exact ⟨hxn, hxb⟩
  · intro D nD ys news1 h6 tk6 hJ hks hkD hnD F6 N6
    obtain ⟨pts, rfl, rfl, hpl, hpt⟩ := hJ
    k_steps
    refine Hold.of ?_
    refine sorted_wp F6 N6 (pts := pts) ⟨_, (N6 _ (.head _)).1, rfl, _, rfl⟩ (fun p hp => .tail _ (.tail _ (.tail _ (List.mem_map_of_mem hp)))) (by omega) (by omega) ?_
    intro Dp cp h7 tk7 pile F7 N7 hlt7 hpile hord
    dsimp only
    have N7' : News g0 L h7 ((Dp, listOf (ptRefs pile).toArray cp) :: (L + 1, o1) :: (La, listOf vs.toArray nn) :: pts.map ptPair) := fun p hp => N7 p (by
      rcases List.mem_cons.mp hp with rfl | hp
      · exact .head _
      · exact .tail _ (.tail _ hp))
    have nDp : ∀ p ∈ (L + 1, o1) :: (La, listOf vs.toArray nn) :: pts.map ptPair, p.1 ≠ Dp := fun p hp => Nat.ne_of_lt (hlt7 p (.tail _ hp))
    clear N7 F6 N6
    k_steps
    rename Fr _ _ _ _ => F8
    rename News _ _ _ _ => N8
    refine Hold.of ?_
    refine' comp_start2 ?hclos2 ?hkind2 ?hnames2 ?hrest2 ?hs2
    case hclos2 => with_unfolding_all rfl
    case hkind2 => rfl
    case hnames2 => decide
    case hs2 => intro _; rfl
    k_steps
    refine Hold.of ?_
    have hDpL : Dp ≠ L := (N8 _ (.head _)).2.1
    have N9 : News g0 L _ ((L + 1, o1) :: (La, listOf vs.toArray nn) :: pts.map ptPair) := fun p hp => N8 p (.tail _ hp)
    have hpl2 : pile.length = ns.length := by rw [hpile.length_eq, hpl]
    have hpsz : (ptRefs pile).toArray.size = ns.length := by simp [ptRefs, hpl2]
    have pget : ∀ i v, (ptRefs pile).toArray[i]? = some v → ∃ p, pile[i]? = some p ∧ v = Value.ref p.a ∧ p ∈ pts := fun i v e => by
      unfold ptRefs at e
      rw [List.getElem?_toArray, List.getElem?_map] at e
      cases hp : pile[i]? with
      | none => rw [hp] at e; cases e
      | some p =>
        rw [hp] at e
        cases e
        exact ⟨p, hp, rfl, hpile.mem_iff.mp (List.mem_of_getElem? hp)⟩
    refine compPair rfl (items := (ptRefs pile).toArray) ⟨_, (N8 _ (.head _)).1, rfl, _, rfl⟩ hDpL F8 N9 nDp (fun i ys nw => ∃ out : List It, ys = refs out ∧ nw = (L + 1, o1) :: (La, listOf vs.toArray nn) :: (pts.map ptPair ++ out.map pairOf) ∧ out.map (fun i => (i.s, i.b)) = (pile.take i).map (fun p => (dueS p.n.toNat, p.b.toArray)))
      (fun _ => rfl) (fun _ => rfl) rfl rfl rfl (by rw [hpsz, sizeLine_eq]; omega) ⟨[], rfl, by simp, rfl⟩ ?_ ?_ ?_
    · intro i v ys nw h hi hJ F9 N9
      obtain ⟨out, rfl, rfl, ho⟩ := hJ
      obtain ⟨p, hp, rfl, hpm⟩ := pget i v hi
      exact ⟨p.a, _, _, rfl, _, (N9 (ptPair p) (.tail _ (.tail _ (List.mem_append_left _ (List.mem_map_of_mem hpm))))).1, rfl, _, rfl⟩
    · intro C2 X2 fp i t2 v1 v2 ys m2 news1 h9 tk9 own oC oX hi hit htup hJ hyl hnf hown hall hns hmy hoX F9 N9 hCf hXf
      obtain ⟨out, rfl, rfl, ho⟩ := hJ
      obtain ⟨p, hp, hpa, hpm⟩ := pget i _ hit
      cases hpa
      have hpo := (N9 (ptPair p) (List.mem_append_left _ (.tail _ (.tail _ (List.mem_append_left _ (List.mem_map_of_mem hpm)))))).1
      obtain ⟨hv1, hv2⟩ : v1 = .int p.n p.tn ∧ v2 = .bytes p.b.toArray p.tb := by
        obtain ⟨ot, e, _, nt, hd⟩ := htup
        rw [hpo] at e
        cases e
        injection hd with hd1 hd2
        have := congrArg Array.toList hd1
        simp at this
        exact ⟨this.1.symm, this.2.symm⟩
      subst hv1 hv2
      have N10 : News g0 L h9 ((C2, oC) :: (X2, oX) :: (L + 1, o1) :: (La, listOf vs.toArray nn) :: (pts.map ptPair ++ out.map pairOf ++ own)) := fun q hq => N9 q (by
        simp only [List.cons_append, List.mem_cons, List.mem_append] at hq ⊢
        rcases hq with h | h | h | h | (h | h) | h <;> simp [h])
      clear N9
      have hlow : low9 p.n = p.n.toNat := by
        obtain ⟨k, hk, hpk⟩ := List.mem_iff_getElem.mp hpm
        have hk' : k < ns.length := by omega
        have := (hpt k ns[k] p (List.getElem?_eq_getElem hk') (by rw [List.getElem?_eq_getElem hk, hpk])).1
        have hl := low9_lt ns[k]
        unfold low9 at *
        rw [this, Int.fmod_eq_emod_of_nonneg _ (by decide), Int.fmod_eq_emod_of_nonneg _ (by decide)]
        omega
      k_steps
      refine Hold.of ?_
      refine' comp_start ?hclos3 ?hkind3 ?hnames3 ?hrest3 ?hs3
      case hclos3 => with_unfolding_all rfl
      case hkind3 => rfl
      case hnames3 => decide
      case hs3 => intro _; rfl
      k_steps
      rename IsRange _ _ _ _ _ _ _ _ => hR2
      rename Fr _ _ _ _ => F11
      rename News _ _ _ _ => N11
      refine Hold.of ?_
      refine src_range (k := 9) rfl hR2 rfl rfl F11 N11 ?_
      intro I2 h12 S2
      refine compEval S2 (fun j ys nw => nw = (C2, oC) :: (X2, oX) :: (L + 1, o1) :: (La, listOf vs.toArray nn) :: (pts.map ptPair ++ out.map pairOf ++ own) ∧ ∃ l : List (Str × Tok), ys = strValues l ∧ l.map (·.1) = signs p.n.toNat j) (by decide) rfl rfl (by rw [sizeLine_eq]; omega) ⟨rfl, [], rfl, rfl⟩ (CompTurn.of2 ?_) ?_
      · intro C3 fp3 j v ys m3 news3 h13 tk13 own3 oC3 hj hP hJ hyl3 hnf3 hown3 hCf3 hall3 hns3 hmx3 F13 N13
        obtain ⟨rfl, lj, rfl, hlj⟩ := hJ
        obtain ⟨tv3, rfl⟩ := hP
        have ej : (0 : Int) + (j : Int) * 1 = (j : Int) := by omega
        rw [ej] at hmx3
        refine tests_nil ?_
        simp only [if_true, List.cons_append] at N13 ⊢
        have N14 : News g0 L h13 ((C3, oC3) :: (C2, oC) :: (X2, oX) :: (L + 1, o1) :: (La, listOf vs.toArray nn) :: (pts.map ptPair ++ out.map pairOf ++ own ++ own3)) := fun q hq => N13 q (by
          simp only [List.mem_cons, List.mem_append] at hq ⊢
          rcases hq with h | h | h | h | h | ((h | h) | h) | h <;> simp [h])
        clear N13
        have eb := bit_eq p.n j hj
        rw [hlow] at eb
        have memN : ∀ q ∈ (C2, oC) :: (X2, oX) :: (L + 1, o1) :: (La, listOf vs.toArray nn) :: (pts.map ptPair ++ out.map pairOf ++ own) ++ own3, q ∈ (C3, oC3) :: (C2, oC) :: (X2, oX) :: (L + 1, o1) :: (La, listOf vs.toArray nn) :: (pts.map ptPair ++ out.map pairOf ++ own ++ own3) := fun q hq => by
          simp only [List.cons_append, List.mem_cons, List.mem_append] at hq ⊢
          rcases hq with h | h | h | h | ((h | h) | h) | h <;> simp [h]
        k_steps
        · rename Int.fmod (Int.fdiv _ _) 2 = 1 => hb
          rw [eb] at hb
          dsimp only
          refine ⟨_, _, _, rfl, F13, (fun q hq => N14 q (memN q hq)), hnf3, rfl, lj ++ [(_, _)], by unfold strValues; rw [List.map_append]; rfl, ?_⟩
          rw [List.map_append, hlj]
          unfold signs
          rw [List.range_succ, List.map_append, List.map_singleton, List.map_singleton]
          congr 2
          show Txt.item (Str.ofString "rwx") ((j : Int).fmod 3) = sign p.n.toNat j
          unfold sign
          rw [if_pos (by omega)]
          exact rwx_at j hj
        · rename Int.fmod (Int.fdiv _ _) 2 ≠ 1 => hb
          rw [eb] at hb
          dsimp only
          refine ⟨_, _, _, rfl, F13, (fun q hq => N14 q (memN q hq)), hnf3, rfl, lj ++ [(_, _)], by unfold strValues; rw [List.map_append]; rfl, ?_⟩
          rw [List.map_append, hlj]
          unfold signs
          rw [List.range_succ, List.map_append, List.map_singleton, List.map_singleton]
          congr 2
          show Str.ofString "-" = sign p.n.toNat j
          unfold sign
          rw [if_neg (by omega)]
      · intro D3 nD3 ys news3 h13 tk13 hJ hks3 hkD3 hnD3 F13 N13
        obtain ⟨rfl, lj, rfl, hlj⟩ := hJ
        k_steps
        refine Hold.of ?_
        refine SC.join (l := lj) (texts := signs p.n.toNat 9) ⟨_, N13.get (.head _), rfl, _, rfl⟩ hlj (joinOk_of_weight (signs_weight _) (by decide)) ?_
        intro tJ kJ
        dsimp only
        refine PyProof.Rows.add_str ?_ (by have := signs_len p.n.toNat; rw [sizeLine_eq]; show 1 + (Txt.join Str.empty (signs p.n.toNat 9)).length ≤ 16777216; omega)
        intro tD kD
        dsimp only
        have N14 : News g0 L h13 ((C2, oC) :: (X2, oX) :: (L + 1, o1) :: (La, listOf vs.toArray nn) :: (pts.map ptPair ++ out.map pairOf ++ own)) := fun q hq => N13 q (.tail _ hq)
        clear N13 N11 F11
        k_steps
        rename Fr _ _ _ _ => F15
        rename News _ _ _ _ => N15
        rename_i D15 h15 l15
        obtain ⟨x, hx, hxs, hxb, hxo⟩ : ∃ x : It, x.a = D15 ∧ x.s = dueS p.n.toNat ∧ x.b = p.b.toArray ∧ (D15, x.obj) = (D15, ({ cls := .type "tuple", data := .seq #[.str (Str.ofString "-" ++ Txt.join Str.empty (signs p.n.toNat 9)) tD, .bytes p.b.toArray p.tb] } : Obj)) := ⟨⟨D15, _, _, tD, p.tb⟩, rfl, rfl, rfl, rfl⟩
        have N16 : News g0 L h15 ((D15, x.obj) :: (C2, oC) :: (X2, oX) :: (L + 1, o1) :: (La, listOf vs.toArray nn) :: (pts.map ptPair ++ out.map pairOf ++ own)) := by
          rw [hxo]; exact N15
        clear N15
        subst hx
        change CompStep g0 L _ fp own _ _ _
        refine ⟨_, _, (L + 1, o1) :: (La, listOf vs.toArray nn) :: (pts.map ptPair ++ (out ++ [x]).map pairOf), rfl, F15, (fun q hq => N16 q ?_), ?_, out ++ [x], by simp [refs], rfl, ?_⟩
        · simp only [List.cons_append, List.map_append, List.map_cons, List.map_nil, List.mem_append, List.mem_cons, List.not_mem_nil, or_false] at hq ⊢
          rcases hq with h | h | (h | h | h) | h <;> simp [h]
        · intro q hq
          simp only [List.map_append, List.map_cons, List.map_nil, List.mem_append, List.mem_cons, List.not_mem_nil, or_false] at hq
          rcases hq with rfl | rfl | h | h | rfl
          · exact hnf _ (.head _)
          · exact hnf _ (.tail _ (.head _))
          · exact hnf _ (.tail _ (.tail _ (List.mem_append_left _ h)))
          · exact hnf _ (.tail _ (.tail _ (List.mem_append_right _ h)))
          · intro hm
            obtain ⟨o, hob⟩ := hall _ hm (N16 _ (.head _)).2.2
            exact Nat.lt_irrefl _ (allLt_mem l15.2.2.2.2 _ (List.mem_append_right _ hob))
        · rw [List.map_append, ho, List.take_add_one, hp, List.map_append]
          congr 1
          show [(x.s, x.b)] = [(dueS p.n.toNat, p.b.toArray)]
          rw [hxs, hxb]
    · intro Dd nD2 ys news1 h9 tk9 hJ hkl hlD hnD F9 N9
      obtain ⟨out, rfl, rfl, ho⟩ := hJ
      rw [hpsz, ← hpl2, List.take_length] at ho
      have hLas : @LT.lt Nat _ La s.heap.objs.size := Heap.lt_size hLa
      have hL' : @LE.le Nat _ s.heap.objs.size L := hL
      have fresh : ∀ b, b ≠ La → g0.get? b = none → s.heap.get? b = none := fun b hb e => by
        cases hs : s.heap.get? b with
        | none => rfl
        | some o => rw [hext b o (by simpa using hb) hs] at e; cases e
      have hLaAt := (N9 _ (.tail _ (.tail _ (.head _)))).1
      have hDn := N9 _ (.head _)
      refine hQ h9 tk9 Dd nD2 out ?_ (fresh Dd (Ne.symm (hnD _ (.tail _ (.head _)))) hDn.2.2) hDn.1 ?_ ⟨pts, hpl, hpt, pile, hpile, hord, ho⟩
      · intro b o _ e
        by_cases hb : b = La
        · subst hb
          rw [hLa] at e
          cases e
          exact hLaAt
        · exact F9.keep b o (hext b o (by simpa using hb) e)
      · intro i hi
        have q := N9 (pairOf i) (.tail _ (.tail _ (.tail _ (List.mem_append_right _ (List.mem_map_of_mem hi)))))
        refine ⟨q.1, fresh i.a (fun e => ?_) q.2.2⟩
        have q1 := q.1
        have e : (pairOf i).1 = La := e
        rw [e, hLaAt] at q1
        have e2 := congrArg Obj.cls (Option.some.inj q1)
        injection e2 with e3
        exact absurd e3 (by decide)
end Mine
end
section
open PySem PySem.W PyProof.Rows PySem.Calls PySem.Spec
namespace Mine

theorem band_nat (a b : Nat) : Builtin.bitAnd (a : Int) (b : Int) = ((a &&& b : Nat) : Int) := by
  unfold Builtin.bitAnd
  rw [decide_eq_true (Int.natCast_nonneg a), decide_eq_true (Int.natCast_nonneg b)]
  rfl
/-- a file of rights x: the tests of the table, on plain numbers -/
def bitTest (x b : Nat) : Bool := Nat.beq (Nat.land (32768 + x) b) b
theorem band_test (x b : Nat) : (Builtin.bitAnd (32768 + (x : Int)) (b : Int) == (b : Int)) = bitTest x b := by
  rw [show (32768 : Int) + (x : Int) = ((32768 + x : Nat) : Int) by omega, band_nat, Bool.eq_iff_iff, beq_iff_eq]
  unfold bitTest
  rw [Nat.beq_eq]
  exact Int.ofNat_inj
def plainBits (x : Nat) : Bool :=
  (List.range 9).all fun k => bitTest x (2 ^ (8 - k)) == Nat.beq (x / 2 ^ (8 - k) % 2) 1
def oddBits (x : Nat) : Bool := Nat.beq (Nat.land (32768 + x) 61440) 32768 && [2112, 2048, 1032, 1024, 513, 512].all fun b => !bitTest x b
theorem plain_all : ∀ x : Fin 512, (plainBits x.val && oddBits x.val) = true := by decide +kernel

theorem tests_of {x : Nat} (hx : x < 512) : (∀ k, k < 9 → bitTest x (2 ^ (8 - k)) = Nat.beq (x / 2 ^ (8 - k) % 2) 1) ∧ Nat.land (32768 + x) 61440 = 32768 ∧ ∀ b ∈ [2112, 2048, 1032, 1024, 513, 512], bitTest x b = false := by
  have h := plain_all ⟨x, hx⟩
  unfold plainBits oddBits at h
  simp only [Bool.and_eq_true, List.all_eq_true, List.mem_range, beq_iff_eq, Nat.beq_eq, Bool.not_eq_true'] at h
  exact ⟨h.1, h.2.1, h.2.2⟩

theorem pick_one (x : Nat) (i : Nat) (a : Addr) (p : Pr) (b : Nat) (hb : p.bit = (b : Int)) (hi : i ≠ 0) :
    pick (32768 + (x : Int)) i ⟨a, [p]⟩ = if bitTest x b = true then p.ch else Str.ofString "-" := by
  unfold pick
  simp only [List.find?_cons, List.find?_nil, rowTest, if_neg hi, hb, band_test]
  cases bitTest x b <;> rfl
theorem pick_three (x : Nat) (i : Nat) (a : Addr) (p q r : Pr) (b c d : Nat) (hb : p.bit = (b : Int)) (hc : q.bit = (c : Int)) (hd : r.bit = (d : Int)) (hi : i ≠ 0)
    (nb : bitTest x b = false) (nc : bitTest x c = false) :
    pick (32768 + (x : Int)) i ⟨a, [p, q, r]⟩ = if bitTest x d = true then r.ch else Str.ofString "-" := by
  unfold pick
  simp only [List.find?_cons, List.find?_nil, rowTest, if_neg hi, hb, hc, hd, band_test, nb, nc]
  cases bitTest x d <;> rfl
theorem sign_is (x k b : Nat) (c : Str) (hk : (match k % 3 with | 0 => Str.ofString "r" | 1 => Str.ofString "w" | _ => Str.ofString "x") = c) (h : bitTest x b = Nat.beq (x / 2 ^ (8 - k) % 2) 1) :
    (if bitTest x b = true then c else Str.ofString "-") = sign x k := by
  unfold sign
  rw [h]
  by_cases e : x / 2 ^ (8 - k) % 2 = 1
  · rw [if_pos e, if_pos (by rw [Nat.beq_eq]; exact e)]; exact hk.symm
  · rw [if_neg e, if_neg (by rw [Nat.beq_eq]; exact e)]
theorem picks_due (x : Nat) (hx : x < 512) : picks (32768 + (x : Int)) 10 = Str.ofString "-" :: signs x 9 := by
  obtain ⟨hp, h0, hn⟩ := tests_of hx
  have e0 : pick (32768 + (x : Int)) 0 (rows.getD 0 ⟨0, []⟩) = Str.ofString "-" := by
    have e : Builtin.bitAnd (32768 + (x : Int)) 61440 = 32768 := by
      rw [show (32768 : Int) + (x : Int) = ((32768 + x : Nat) : Int) by omega]
      refine (band_nat _ 61440).trans ?_
      exact congrArg Int.ofNat h0
    show (match List.find? (rowTest (32768 + (x : Int)) 0) [_, _, _, _, _, _, _] with | some p => p.ch | none => _) = _
    simp only [List.find?_cons, rowTest, if_true, e]
    rfl
  have e (i : Nat) (hi : i < 9) : pick (32768 + (x : Int)) (i + 1) (rows.getD (i + 1) ⟨0, []⟩) = sign x i := by
    match i, hi with
    | 0, _ => exact (pick_one x 1 _ _ 256 rfl (by decide)).trans (sign_is x 0 256 _ rfl (hp 0 (by decide)))
    | 1, _ => exact (pick_one x 2 _ _ 128 rfl (by decide)).trans (sign_is x 1 128 _ rfl (hp 1 (by decide)))
    | 2, _ => exact (pick_three x 3 _ _ _ _ 2112 2048 64 rfl rfl rfl (by decide) (hn _ (by decide)) (hn _ (by decide))).trans (sign_is x 2 64 _ rfl (hp 2 (by decide)))
    | 3, _ => exact (pick_one x 4 _ _ 32 rfl (by decide)).trans (sign_is x 3 32 _ rfl (hp 3 (by decide)))
    | 4, _ => exact (pick_one x 5 _ _ 16 rfl (by decide)).trans (sign_is x 4 16 _ rfl (hp 4 (by decide)))
    | 5, _ => exact (pick_three x 6 _ _ _ _ 1032 1024 8 rfl rfl rfl (by decide) (hn _ (by decide)) (hn _ (by decide))).trans (sign_is x 5 8 _ rfl (hp 5 (by decide)))
    | 6, _ => exact (pick_one x 7 _ _ 4 rfl (by decide)).trans (sign_is x 6 4 _ rfl (hp 6 (by decide)))
    | 7, _ => exact (pick_one x 8 _ _ 2 rfl (by decide)).trans (sign_is x 7 2 _ rfl (hp 7 (by decide)))
    | 8, _ => exact (pick_three x 9 _ _ _ _ 513 512 1 rfl rfl rfl (by decide) (hn _ (by decide)) (hn _ (by decide))).trans (sign_is x 8 1 _ rfl (hp 8 (by decide)))
  unfold picks signs
  rw [List.range_succ_eq_map, List.map_cons, List.map_map, e0]
  refine congrArg _ (List.map_congr_left fun i hi => ?_)
  exact e i (List.mem_range.mp hi)

theorem join_chars : ∀ l : List Str, (Txt.join Str.empty l).cps.toList = (l.map (·.cps.toList)).flatten := by
  have h : ∀ l : List Str, (Str.join Str.empty l).cps.toList = (l.map (·.cps.toList)).flatten := by
    intro l
    induction l with
    | nil => rfl
    | cons x l ih =>
      cases l with
      | nil => exact (List.append_nil _).symm
      | cons y r =>
        rw [List.map_cons, List.flatten_cons, ← ih]
        show ((x.cps ++ #[]) ++ (Str.join Str.empty (y :: r)).cps).toList = _
        rw [Array.append_empty, Array.toList_append]
  intro l
  show (Builtin.Str.glued Str.empty l).cps.toList = _
  rw [StrLaws.glued_eq_join, h]
theorem pick_due (x : Nat) (hx : x < 512) : Txt.join Str.empty (picks (32768 + (x : Int)) 10) = dueS x := by
  rw [picks_due x hx]
  refine str_eq.mpr ?_
  rw [join_chars, List.map_cons, List.flatten_cons, ← join_chars]
  exact (Array.toList_append).symm

def codeAt (x k : Nat) : Nat := if Nat.beq (x / 2 ^ (8 - k) % 2) 1 = true then (match k % 3 with | 0 => 114 | 1 => 119 | _ => 120) else 45
theorem sign_code (x k : Nat) : (sign x k).cps.toList = [codeAt x k] := by
  unfold sign codeAt
  simp only [Nat.beq_eq]
  split
  · generalize k % 3 = j
    match j with
    | 0 => decide
    | 1 => decide
    | j + 2 => exact (by decide : (Str.ofString "x").cps.toList = [120])
  · decide
theorem due_codes (x : Nat) : (dueS x).cps.toList = 45 :: (List.range 9).map (codeAt x) := by
  show ((Str.ofString "-").cps ++ (Txt.join Str.empty (signs x 9)).cps).toList = _
  rw [Array.toList_append, join_chars, show (Str.ofString "-").cps.toList = [45] by decide, List.singleton_append]
  refine congrArg _ ?_
  unfold signs
  rw [List.map_map]
  induction List.range 9 with
  | nil => rfl
  | cons k r ih => rw [List.map_cons, List.flatten_cons, ih, List.map_cons, Function.comp_apply, sign_code, List.singleton_append]
theorem due_step (x : Nat) (hx : x < 511) : (dueS x).cps.toList < (dueS (x + 1)).cps.toList := by
  have all : ∀ k : Fin 511, (List.range 9).map (codeAt k.val) < (List.range 9).map (codeAt (k.val + 1)) := by decide +kernel
  rw [due_codes, due_codes]
  exact List.cons_lt_cons_iff.mpr (.inr ⟨rfl, all ⟨x, hx⟩⟩)
theorem due_lt : ∀ (d x : Nat), x + d + 1 < 512 → (dueS x).cps.toList < (dueS (x + d + 1)).cps.toList
  | 0, x, h => due_step x (by omega)
  | d + 1, x, h => List.lt_trans (due_lt d x (by omega)) (due_step (x + d + 1) (by omega))
theorem due_mono {x y : Nat} (h : x < y) (hy : y < 512) : (dueS x).cps.toList < (dueS y).cps.toList := by
  have := due_lt (y - x - 1) x (by omega)
  rwa [show x + (y - x - 1) + 1 = y by omega] at this

theorem perm_eq {α : Type} {r : α → α → Prop} (anti : ∀ a b, r a b → r b a → a = b) : ∀ {a b : List α}, a.Perm b → a.Pairwise r → b.Pairwise r → a = b
  | [], b, h, _, _ => h.symm.eq_nil.symm
  | x :: a, b, h, ha, hb => by
    cases b with
    | nil => exact h.eq_nil
    | cons y b =>
      have hxy : x = y := by
        have hx : x ∈ y :: b := h.mem_iff.mp (.head _)
        have hy : y ∈ x :: a := h.mem_iff.mpr (.head _)
        rcases List.mem_cons.mp hx with e | hx
        · exact e
        · rcases List.mem_cons.mp hy with e | hy
          · exact e.symm
          · exact anti x y (List.rel_of_pairwise_cons ha hy) (List.rel_of_pairwise_cons hb hx)
      subst hxy
      rw [perm_eq anti ((List.perm_cons x).mp h) (List.pairwise_cons.mp ha).2 (List.pairwise_cons.mp hb).2]

def kOf (i : It) : Str × Array UInt8 := (i.s, i.b)
def kle (a b : Str × Array UInt8) : Prop := a.1.cps.toList < b.1.cps.toList ∨ (a.1.cps.toList = b.1.cps.toList ∧ a.2.toList ≤ b.2.toList)
theorem kle_anti (a b : Str × Array UInt8) (h : kle a b) (h' : kle b a) : a = b := by
  rcases h with h | ⟨h, q⟩
  · rcases h' with h' | ⟨h', _⟩
    · exact absurd (List.lt_trans h h') (List.lt_irrefl _)
    · rw [h'] at h; exact absurd h (List.lt_irrefl _)
  · rcases h' with h' | ⟨_, q'⟩
    · rw [h] at h'; exact absurd h' (List.lt_irrefl _)
    · exact Prod.ext (str_eq.mpr h) (Array.toList_inj.mp (List.le_antisymm q q'))

/-- what is told is what is due -/
theorem told_due {ns : List Int} {items out out2 : List It} (ht : Told ns items) (hp : out.Perm items) (hs : out.Pairwise le) (hd : DueBy ns out2) : out.map kOf = out2.map kOf := by
  obtain ⟨pts, hpl, hpt, pile, hpile, hord, hout⟩ := hd.ex
  have rng : ∀ p ∈ pts, 0 ≤ p.n ∧ p.n < 512 := fun p hp => by
    obtain ⟨k, hk, rfl⟩ := List.mem_iff_getElem.mp hp
    have hk' : k < ns.length := by omega
    have := (hpt k ns[k] pts[k] (List.getElem?_eq_getElem hk') (List.getElem?_eq_getElem hk)).1
    have hl := low9_lt ns[k]
    omega
  have e1 : items.map kOf = pts.map fun p => (dueS p.n.toNat, p.b.toArray) := by
    apply List.ext_getElem
    · rw [List.length_map, List.length_map, ht.len, hpl]
    · intro k h1 h2
      rw [List.length_map] at h1 h2
      have hk : k < ns.length := by rw [← hpl]; exact h2
      rw [List.getElem_map, List.getElem_map]
      obtain ⟨a1, a2⟩ := ht.at_ k ns[k] items[k] (List.getElem?_eq_getElem hk) (List.getElem?_eq_getElem h1)
      obtain ⟨b1, b2⟩ := hpt k ns[k] pts[k] (List.getElem?_eq_getElem hk) (List.getElem?_eq_getElem h2)
      unfold kOf
      rw [a1, a2, b1, b2, pick_due _ (low9_lt _), Int.toNat_natCast]
  have hout' : out2.map kOf = pile.map fun p => (dueS p.n.toNat, p.b.toArray) := hout
  rw [hout']
  refine perm_eq kle_anti ((hp.map kOf).trans (by rw [e1]; exact (hpile.map _).symm)) ?_ ?_
  · rw [List.pairwise_map]
    exact hs.imp fun {a b} h => (le_iff a b).mp h
  · rw [List.pairwise_map]
    refine List.Pairwise.imp_of_mem (fun {a b} ha hb h => ?_) hord
    have ra := rng a (hpile.mem_iff.mp ha)
    have rb := rng b (hpile.mem_iff.mp hb)
    rcases (pblt_false _ _).mp h with h | ⟨h, q⟩
    · have h : a.n < b.n := h
      exact .inl (due_mono (by omega) (by omega))
    · have h : a.n = b.n := h
      refine .inr ⟨by rw [h], ?_⟩
      exact q
end Mine
end
section
open PySem PySem.W PyProof.Rows PySem.Calls PySem.Spec
namespace Mine
open PySem.SeqAt
section
variable {prog : Program} {w : World} {A : Around} {E : Value → Shared → Prop} {s : Shared}
theorem eq_items {i j : It} {A : Around} (hi : s.heap.get? i.a = some i.obj) (hj : s.heap.get? j.a = some j.obj) (hne : i.a ≠ j.a) (hk : kOf i = kOf j) (hu : A.units < cLine) : EqAt A s (.ref i.a) (.ref j.a) true := by
  have hs : i.s = j.s := congrArg Prod.fst hk
  have hb : i.b = j.b := congrArg Prod.snd hk
  refine EqAt.of_refs hne ?_
  have := RcAt.tuples (A := A) (s := s) (l := i.a) (b := j.a) (items := #[.str i.s i.ts, .bytes i.b i.tb]) (items2 := #[.str j.s j.ts, .bytes j.b j.tb]) (e := fun _ => true) ⟨_, hi, rfl, _, rfl⟩ ⟨_, hj, rfl, _, rfl⟩ hu ?_
  · exact this
  · intro k h1 h2
    have : k = 0 ∨ k = 1 := by have : k < 2 := h1; omega
    rcases this with rfl | rfl
    · intro prog w E Q hq
      refine wpAny_eqBool_str ?_
      rw [decide_eq_true hs]
      exact hq
    · intro prog w E Q hq
      refine eqBool_bytes ?_
      rw [decide_eq_true (by rw [hb])]
      exact hq
theorem eq_told {a b : Addr} {n n2 : Nat} {out out2 : List It} {Q : Value → Shared → Prop} (ha : s.heap.get? a = some (listOf (refs out).toArray n)) (hb : s.heap.get? b = some (listOf (refs out2).toArray n2))
    (hoa : ∀ i ∈ out, s.heap.get? i.a = some i.obj) (hob : ∀ i ∈ out2, s.heap.get? i.a = some i.obj) (hne : ∀ i ∈ out, ∀ j ∈ out2, i.a ≠ j.a) (hk : out.map kOf = out2.map kOf) (hu : A.units + 10 < cLine) (h : Q (.bool true) s) :
    wpAny (model prog w) A (compareOp .Eq (.ref a) (.ref b)) Q E s := by
  have hl : out.length = out2.length := by have := congrArg List.length hk; simpa using this
  have hz1 : (refs out).toArray.size = out.length := by simp [refs]
  have hz2 : (refs out2).toArray.size = out2.length := by simp [refs]
  have := RcAt.lists (A := A) (s := s) (l := a) (b := b) (items := (refs out).toArray) (items2 := (refs out2).toArray) (e := fun _ => true) ⟨_, ha, rfl, _, rfl⟩ ⟨_, hb, rfl, _, rfl⟩ (by rw [hz1, hz2, hl]) (by omega) ?_
  · refine this prog w E Q ?_
    rw [show ((List.range (refs out).toArray.size).all fun _ => true) = true from List.all_eq_true.mpr fun _ _ => rfl]
    exact h
  · intro k h1 h2
    rw [hz1] at h1
    rw [hz2] at h2
    have e1 : (refs out).toArray[k]'(by rw [hz1]; exact h1) = .ref (out[k]).a := by simp [refs]
    have e2 : (refs out2).toArray[k]'(by rw [hz2]; exact h2) = .ref (out2[k]).a := by simp [refs]
    rw [e1, e2]
    refine eq_items (hoa _ (List.getElem_mem h1)) (hob _ (List.getElem_mem h2)) (hne _ (List.getElem_mem h1) _ (List.getElem_mem h2)) ?_ (by show A.units + _ < _; omega)
    have := congrArg (fun l => l[k]?) hk
    simp only [List.getElem?_map, List.getElem?_eq_getElem h1, List.getElem?_eq_getElem h2] at this
    simpa using this
end
end Mine
end
theorem Mine.offFN : True := by
  w_top off
  trivial
open PySem PySem.W PyProof.Rows PySem.Calls PySem.Spec
open Mine
local macro_rules | `(tactic| walk_at "call ref") => `(tactic| refine Mine.hold ?_)
local macro_rules | `(tactic| walk_at "eval ListComp") => `(tactic| refine Mine.hold ?_)
local macro_rules | `(tactic| walk_at "pyIter ref") => `(tactic| refine Mine.hold ?_)
local macro_rules | `(tactic| walk_at "compareOp Eq ref ref") => `(tactic| refine Mine.hold ?_)
theorem Mine.whole : PySem.Challenge.rw_nq0081_01.Holds := hd (by
  w_strict (
    k_go0
    (all_goals try k_fold)
    k_steps
    rename Frag.In _ _ => KX
    rename Top _ _ _ _ _ _ => TT
    rename Fr _ _ _ _ => F2
    rename News _ _ _ _ => N2
    rename IntsAre _ (_ ++ _) => hI
    refine Hold.of ?_
    refine' comp_start ?hclos ?hkind ?hnames ?hrest ?hs
    case hclos => with_unfolding_all rfl
    case hkind => rfl
    case hnames => decide
    case hs => intro _; rfl
    k_steps
    refine Hold.of ?_
    rename_i DD wsA _ hlt hh
    obtain ⟨ns, hI, hnl⟩ : ∃ ns : List Int, IntsAre wsA ns ∧ 5 ≤ ns.length ∧ ns.length ≤ 11 := ⟨_, hI, by rw [List.length_append]; show 5 ≤ 5 + _; omega, by rw [List.length_append, List.length_take]; show 5 + _ ≤ 11; omega⟩
    have hDat := (N2 _ (.head _))
    have hwl : wsA.length = ns.length := hI.length
    refine src_list (news := []) rfl (items := wsA.toArray) ⟨_, hDat.1, rfl, _, rfl⟩ hDat.2.1 F2 (fun p hp => nomatch hp) (fun p hp => nomatch hp) ?_
    intro I h3 hk3 S
    have hz : wsA.toArray.size = ns.length := by rw [List.size_toArray, hwl]
    rw [hz] at S
    refine compEval S (fun i ys nw => nw = [] ∧ BA ys ((ns.take i).map ansB)) (by decide) rfl rfl (by rw [sizeLine_eq]; omega) ⟨rfl, .nil⟩ (CompTurn.of2 ?_) ?_
    · intro C fp i v ys m2 news1 h6 tk6 own oC hi hP hJ hyl hnf hown hCf hnone hmm hmx F6 N6
      obtain ⟨rfl, hB⟩ := hJ
      have hP' : wsA[i]? = some v := by simpa using hP
      have hni : ns[i]? = some ns[i] := List.getElem?_eq_getElem hi
      generalize ns[i] = nI at hni
      obtain ⟨tA, hA⟩ := ints_get hI hni
      rw [hA] at hP'
      cases hP'
      refine tests_nil ?_
      simp only [if_true, List.nil_append] at N6 ⊢
      k_steps
      refine Hold.of ?_
      refine answer_spec _ _ _ _ _ _ _ _ nI tA (Gr.keeps ⟨KX, _, _, _, TT⟩ F6.keep) (by decide) (by decide) ?_
      intro h7 tk7 t7 e7
      have F7 := fr_after F6 e7 (fun b hb => nomatch hb) (fun hb => nomatch hb)
      have N7 := news_after N6 e7 (fun p hp => .inl ⟨hp, fun hb => nomatch hb⟩)
      change CompStep _ _ _ fp own _ _ _
      refine ⟨_, _, [], rfl, F7, (fun q hq => N7 q (.tail _ hq)), (fun q hq => nomatch hq), rfl, ?_⟩
      rw [List.take_add_one, hni, List.map_append]
      exact hB.snoc _ _
    · intro D1 nD1 ys news1 h6 tk6 hJ hks hkD hnD F6 N6
      obtain ⟨rfl, hB⟩ := hJ
      rw [List.take_length] at hB
      have hDD6 := hks DD (.head _) _ (hk3 _ _ hDat.1)
      have N7 : News _ _ h6 [(DD, listOf wsA.toArray 0), (D1, listOf ys.toArray nD1)] := fun p hp => by
        rcases List.mem_cons.mp hp with rfl | hp
        · exact ⟨hDD6, hDat.2⟩
        · exact N6 p hp
      clear N6
      k_steps
      refine Hold.of ?_
      have hD1at := N7 _ (.tail _ (.head _))
      refine told_spec _ _ _ _ _ _ _ _ D1 nD1 ys ns (gr_hide KX TT F6 [D1] (fun b hb => by rw [List.mem_singleton.mp hb]; exact hD1at.2.2)) hD1at.1 hB (by omega) (by decide) (by decide) ?_
      intro h8 tk8 Dt nt out items e8 hDt hDt' hout hTold hperm hsorted
      have F8 := fr_after F6 e8 (fun b hb => nomatch hb) (fun hb => nomatch hb)
      have hDD8 := e8 _ _ (fun hb => nomatch hb) hDD6
      have N8 : News _ _ h8 [(DD, listOf wsA.toArray 0)] := fun p hp => by
        rw [List.mem_singleton.mp hp]; exact ⟨hDD8, hDat.2⟩
      clear N7 F6
      dsimp only
      k_steps
      refine Hold.of ?_
      refine due_spec _ _ _ _ _ _ _ _ DD 0 wsA ns (gr_hide KX TT F8 [DD] (fun b hb => by rw [List.mem_singleton.mp hb]; exact hDat.2.2)) hDD8 hI (by omega) (by omega) (by decide) (by decide) ?_
      intro h9 tk9 Dd nd out2 e9 hDd hDd' hout2 hDue
      have F9 := fr_after F8 e9 (fun b hb => nomatch hb) (fun hb => nomatch hb)
      have N9 : News _ _ h9 [(DD, listOf wsA.toArray 0)] := fun p hp => by
        rw [List.mem_singleton.mp hp]; exact ⟨e9 _ _ (fun hb => nomatch hb) hDD8, hDat.2⟩
      clear N8 F8
      dsimp only
      k_steps
      refine Hold.of ?_
      refine eq_told (out := out) (out2 := out2) (e9 _ _ (fun hb => nomatch hb) hDt') hDd' (fun i hi => e9 _ _ (fun hb => nomatch hb) (hout i hi).1) (fun i hi => (hout2 i hi).1) ?_ (told_due hTold hperm hsorted hDue) (Nat.le_of_ble_eq_true rfl) ?_
      · intro i hi j hj e
        have h1 := (hout i hi).1
        have h2 := (hout2 j hj).2
        rw [e] at h1
        exact absurd (h1.symm.trans h2) (fun h => nomatch h)
      · k_steps))
theorem PySem.Challenge.cw_nq0081_01_holds : PySem.Challenge.rw_nq0081_01.Holds :=
  Mine.whole
