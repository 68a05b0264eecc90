import PyProof.Rows.All
import Wide.All
import OpenK.AllK
import Wide.FinOn
import PySem.Challenge.RW_mr0096_01
set_option Elab.async false

/- Hd -/
section
open PySem PySem.W PyProof.Rows
set_option Elab.async false
namespace Mine
set_option maxRecDepth 100000 in
set_option maxHeartbeats 8000000 in
open_top hd for PySem.Challenge.rw_mr0096_01
end Mine
end

/- A1 -/
section
open PySem PySem.W PySem.Spec PySem.Calls PyProof.Rows
set_option Elab.async false
set_option maxRecDepth 100000
namespace Mine

theorem fillNow (w : World) (base : Heap) : PySem.Challenge.rw_mr0096_01.name = PySem.Challenge.rw_mr0096_01.name ∨ (hd.heap_39 w.params).In base := by
  k_fill
  exact Or.inl rfl

noncomputable abbrev theLoose : List Str := looseW hd.view_39 [Str.ofString "_initial_missing", Str.ofString "reduce"]

/-- what stands at the base: the written part and the top's facts -/
structure Ba (w : World) (mean : ExcName → Option Value) (mg mb : Str → Option Value) (base : Heap) : Prop where
  X : (hd.heap_39 w.params).In base
  T : Top hd.view_39 theLoose mean mg mb base

/-- room on the two stacks -/
structure Room (A : Around) (n : Nat) : Prop where
  hh : A.handled = none
  dp : A.depth + n < recursionLimit
  un : A.units + 40 * n < cLine

theorem Room.less {A : Around} {n k : Nat} (R : Room A n) (h : k ≤ n) : Room A k := ⟨R.hh, by have := R.dp; omega, by have := R.un; omega⟩
theorem Room.deeper {A : Around} {n : Nat} {env : Env} (R : Room A (n + 1)) : Room (A.deeper env) n := ⟨R.hh, by have := R.dp; simp only [depth_deeper]; omega, by have := R.un; simp only [Around.deeper_units]; omega⟩
theorem Room.now {A : Around} {n : Nat} (R : Room A n) : A.depth < recursionLimit := by have := R.dp; omega

/-- entering a def, the ground being the heap at the call -/
theorem enter {prog : Program} {w : World} {K : Frag} {A : Around} {s : Shared} {base : Heap} {frs : List Env}
    {R : Result → Shared → Prop} {name qual : Str} {params : Arguments} {body : List Stmt} {scope : Scope} {dV kV doc pm cdv ct oc : Value} {an od : Option Addr} {osl : Array (Option Value)} {f : Addr} {args : Args} (binds : List (Str × Value))
    {p : Program} {loose : List Str} {mean : ExcName → Option Value} {mg mb : Str → Option Value}
    (XB : K.In base) (TB : Top p loose mean mg mb base) (B : Below A base frs s.heap)
    (ho : K.lookup f = some ⟨oc, od, .func (fnOf name qual params body scope dV kV doc pm an cdv ct), osl⟩) (hcd : codeIn K cdv qual = true) (hroom : A.depth < recursionLimit)
    (hbind : BindsTo s (fnOf name qual params body scope dV kV doc pm an cdv ct) args binds) (hloc : ∀ y ∈ binds, scope.names.lookup y.1 = some .local)
    (h : ∀ h₁, Fr s.heap s.heap.objs.size h₁ (fun y => binds.reverse.lookup y) → News s.heap s.heap.objs.size h₁ [] → K.In s.heap → Top p loose mean mg mb s.heap →
      wpAny (model prog w) (A.deeper (envOf qual scope s.heap.objs.size f cdv)) (execs body (envOf qual scope s.heap.objs.size f cdv))
        (fun fl s' => R (.ok (.ret (match fl with | .ret v => v | _ => .none))) s')
        (fun e s' => wpAny (model prog w) (A.deeper (envOf qual scope s.heap.objs.size f cdv)) (leaving (envOf qual scope s.heap.objs.size f cdv) e) (fun _ s'' => R (.error e) s'') (fun e' s'' => R (.error e') s'') s')
        { s with heap := h₁, toks := s.toks + binds.length })
    (hco : scope.isCoroutine = false) (hgen : scope.isGenerator = false) (hk : scope.kind = .function)
    (hcell : ∀ x ∈ scope.names, x.2 ≠ .cell) : codeAny (model prog w) A (.call (.ref f) args) R s := by
  have X := XB.keeps B.stays
  have T := TB.keeps B.stays
  refine codeAny_call_def (fd := fnOf name qual params body scope dV kV doc pm an cdv ct) (body := body) (binds := binds) hroom (X _ _ ho) rfl T.nolimit (codeRec_of X hcd) rfl hbind hcell hloc (fun h₁ hns hk₁ => ?_) hco hgen hk
  exact h h₁ ⟨hns, hk₁, Nat.le_refl _⟩ News.nil X T

section
variable {prog : Program} {w : World} {A : Around} {E : Value → Shared → Prop} {s : Shared} {Q : Value → Shared → Prop}
theorem gives_lt_bi (a : Bool) (b : Int) (u : Tok) : Gives (Builtin.«int.__lt__» ⟨[.bool a, .int b u], []⟩) (.val (Value.bool ((fun x1 x2 => decide (x1 < x2)) (if a = true then (1 : Int) else 0) b))) :=
  .of_wp fun M A E s Q h => by obtain ⟨hp, g, d, tk, os⟩ := s; wp_walk; exact ⟨_, rfl, h⟩
theorem gives_le_bi (a : Bool) (b : Int) (u : Tok) : Gives (Builtin.«int.__le__» ⟨[.bool a, .int b u], []⟩) (.val (Value.bool ((fun x1 x2 => decide (x1 ≤ x2)) (if a = true then (1 : Int) else 0) b))) :=
  .of_wp fun M A E s Q h => by obtain ⟨hp, g, d, tk, os⟩ := s; wp_walk; exact ⟨_, rfl, h⟩
theorem gives_gt_bi (a : Bool) (b : Int) (u : Tok) : Gives (Builtin.«int.__gt__» ⟨[.bool a, .int b u], []⟩) (.val (Value.bool ((fun x1 x2 => decide (x1 > x2)) (if a = true then (1 : Int) else 0) b))) :=
  .of_wp fun M A E s Q h => by obtain ⟨hp, g, d, tk, os⟩ := s; wp_walk; exact ⟨_, rfl, h⟩
theorem gives_ge_bi (a : Bool) (b : Int) (u : Tok) : Gives (Builtin.«int.__ge__» ⟨[.bool a, .int b u], []⟩) (.val (Value.bool ((fun x1 x2 => decide (x1 ≥ x2)) (if a = true then (1 : Int) else 0) b))) :=
  .of_wp fun M A E s Q h => by obtain ⟨hp, g, d, tk, os⟩ := s; wp_walk; exact ⟨_, rfl, h⟩
theorem lt_bi {a : Bool} {b : Int} {u : Tok} (h : Q (.bool (decide ((if a then (1 : Int) else 0) < b))) s) : wpAny (model prog w) A (compareOp .Lt (.bool a) (.int b u)) Q E s :=
  cmp_ofLt <| SeqAt.rc_left_or (op := .Lt) rfl (typeIs_int s b u) (by decide) F.sub_int_bool F.slot_bool_lt (call_gives F.slot_bool_lt rfl F.entry_int_lt (F.args_int_lt_2 _ _) (gives_lt_bi a b u) ⟨nofun, h⟩) (.inl rfl)
theorem le_bi {a : Bool} {b : Int} {u : Tok} (h : Q (.bool (decide ((if a then (1 : Int) else 0) ≤ b))) s) : wpAny (model prog w) A (compareOp .LtE (.bool a) (.int b u)) Q E s :=
  cmp_ofLtE <| SeqAt.rc_left_or (op := .LtE) rfl (typeIs_int s b u) (by decide) F.sub_int_bool F.slot_bool_le (call_gives F.slot_bool_le rfl F.entry_int_le (F.args_int_le_2 _ _) (gives_le_bi a b u) ⟨nofun, h⟩) (.inl rfl)
theorem gt_bi {a : Bool} {b : Int} {u : Tok} (h : Q (.bool (decide ((if a then (1 : Int) else 0) > b))) s) : wpAny (model prog w) A (compareOp .Gt (.bool a) (.int b u)) Q E s :=
  cmp_ofGt <| SeqAt.rc_left_or (op := .Gt) rfl (typeIs_int s b u) (by decide) F.sub_int_bool F.slot_bool_gt (call_gives F.slot_bool_gt rfl F.entry_int_gt (F.args_int_gt_2 _ _) (gives_gt_bi a b u) ⟨nofun, h⟩) (.inl rfl)
theorem ge_bi {a : Bool} {b : Int} {u : Tok} (h : Q (.bool (decide ((if a then (1 : Int) else 0) ≥ b))) s) : wpAny (model prog w) A (compareOp .GtE (.bool a) (.int b u)) Q E s :=
  cmp_ofGtE <| SeqAt.rc_left_or (op := .GtE) rfl (typeIs_int s b u) (by decide) F.sub_int_bool F.slot_bool_ge (call_gives F.slot_bool_ge rfl F.entry_int_ge (F.args_int_ge_2 _ _) (gives_ge_bi a b u) ⟨nofun, h⟩) (.inl rfl)
end

end Mine
end

/- A2 -/
section
open PySem PySem.W PySem.Spec PySem.Calls PyProof.Rows
set_option Elab.async false
set_option maxRecDepth 100000
namespace Mine

theorem fillNow2 (w : World) (base : Heap) : PySem.Challenge.rw_mr0096_01.name = PySem.Challenge.rw_mr0096_01.name ∨ (hd.heap_39 w.params).In base := by
  k_fill
  exact Or.inl rfl

inductive Deed where
  | lt | le | eq | ne | ge | gt | floordiv | lshift | mod | rshift | sub | ipow

def Deed.at : Deed → Addr
  | .lt => 30 | .le => 37 | .eq => 44 | .ne => 51 | .ge => 58 | .gt => 65 | .floordiv => 72 | .lshift => 79 | .mod => 86 | .rshift => 93 | .sub => 100 | .ipow => 107

/-- what a fold may stand at: an int, a truth value, or one of the two refusals -/
inductive Res where
  | i (n : Int) | b (x : Bool) | zd | ve

def num : Res → Int
  | .i n => n
  | .b x => if x then 1 else 0
  | .zd => 0
  | .ve => 0

def step : Deed → Res → Int → Res
  | .lt, v, e => .b (decide (num v < e))
  | .le, v, e => .b (decide (num v ≤ e))
  | .eq, v, e => .b (num v == e)
  | .ne, v, e => .b (!(num v == e))
  | .ge, v, e => .b (decide (num v ≥ e))
  | .gt, v, e => .b (decide (num v > e))
  | .floordiv, v, e => if e = 0 then .zd else .i ((num v).fdiv e)
  | .lshift, v, e => if e < 0 then .ve else .i (num v * 2 ^ e.toNat)
  | .mod, v, e => if e = 0 then .zd else .i ((num v).fmod e)
  | .rshift, v, e => if e < 0 then .ve else .i ((num v).fdiv (2 ^ e.toNat))
  | .sub, v, e => .i (num v - e)
  | .ipow, v, e => .i (num v ^ e.toNat)

/-- what the model's steps ask of the numbers -/
def Fit : Deed → Res → Int → Prop
  | .lt, .i _, _ | .le, .i _, _ | .eq, .i _, _ | .ne, .i _, _ | .ge, .i _, _ | .gt, .i _, _ => True
  | .lt, .b _, _ | .le, .b _, _ | .eq, .b _, _ | .ne, .b _, _ | .ge, .b _, _ | .gt, .b _, _ => True
  | .floordiv, .i _, e => e.natAbs < 1073741824
  | .lshift, .i n, e => n.natAbs < 2 ^ 64 ∧ e ≤ 1000000
  | .mod, .i _, _ => True
  | .rshift, .i _, _ => True
  | .sub, .i _, _ => True
  | .ipow, .i n, e => n.natAbs < 2 ^ 64 ∧ 0 ≤ e ∧ e ≤ 1000000
  | _, _, _ => False

/-- a value that bears it -/
inductive Bears : Value → Res → Prop where
  | i {n : Int} {t : Tok} : Bears (.int n t) (.i n)
  | b {x : Bool} : Bears (.bool x) (.b x)

def Refused (base : Heap) (h : Heap) (frs : List Env) (cls : String) (e : Addr) (h' : Heap) : Prop :=
  RaisedSN base h frs e (.type cls) [] h' ∧ h.UpToSlots h'

section
variable {prog : Program} {w : World} {A : Around} {s : Shared} {base g : Heap} {frs : List Env} {L f : Addr} {m : Str → Option Value} {name : Str} {scope : Scope} {cd : Value} {Q : Flow → Shared → Prop} {E : Value → Shared → Prop} {va vb : Value}

theorem body_bin {op : Operator} {pa pb p1 p2 : Pos} (F : Fr g L s.heap m) (ha : m "a" = some va) (hb : m "b" = some vb)
    (h : wpAny (model prog w) A (binaryOp op va vb) (fun v => Q (.ret v)) E s) (hk : scope.kind = .function)
    (hla : (envOf name scope L f cd).kindOf "a" = some .local) (hlb : (envOf name scope L f cd).kindOf "b" = some .local) :
    wpAny (model prog w) A (execs [.Return (some (.BinOp (.Name "a" pa) op (.Name "b" pb) p1)) p2] (envOf name scope L f cd)) Q E s :=
  wpAny_execs_cons (wpAny_Return_some (wpAny_BinOp (ld F ha (ld F hb h hk hlb) hk hla)))

theorem body_cmp {op : CmpOp} {pa pb p1 p2 : Pos} (F : Fr g L s.heap m) (ha : m "a" = some va) (hb : m "b" = some vb)
    (h : wpAny (model prog w) A (compareOp op va vb) (fun v => Q (.ret v)) E s) (hk : scope.kind = .function)
    (hla : (envOf name scope L f cd).kindOf "a" = some .local) (hlb : (envOf name scope L f cd).kindOf "b" = some .local) :
    wpAny (model prog w) A (execs [.Return (some (.Compare (.Name "a" pa) [op] [.Name "b" pb] p1)) p2] (envOf name scope L f cd)) Q E s :=
  wpAny_execs_cons (wpAny_Return_some (wpAny_Compare1 (ld F ha (ld F hb h hk hlb) hk hla)))
end

set_option maxHeartbeats 8000000 in
theorem deed_call (d : Deed) {w : World} {mean : ExcName → Option Value} {mg mb : Str → Option Value} {base : Heap} {frs : List Env} {A : Around} {s : Shared} {Q E : Value → Shared → Prop} {v : Value} {V : Res} {e : Int} {u : Tok}
    (G : Ba w mean mg mb base) (B : Below A base frs s.heap) (R : Room A 1) (hv : Bears v V) (hf : Fit d V e)
    (ret : ∀ v' h' tk', s.heap.StaysIn h' → Bears v' (step d V e) → Q v' { s with heap := h', toks := tk' })
    (rzd : step d V e = .zd → ∀ x h' tk', Refused base s.heap frs "ZeroDivisionError" x h' → E (.ref x) { s with heap := h', toks := tk' })
    (rve : step d V e = .ve → ∀ x h' tk', Refused base s.heap frs "ValueError" x h' → E (.ref x) { s with heap := h', toks := tk' }) :
    wpAny (model PySem.Challenge.rw_mr0096_01.row.prog w) A (call (.ref d.at) [v, .int e u]) Q E s := by
  have XB := G.X
  have TB := G.T
  have hroom := R.now
  have hh := R.hh
  cases d
  all_goals (
    refine wpAny_call ?_
    k_dflt (refine' enter [("a", v), ("b", .int e u)] XB TB B ?ho ?hcd hroom ?hbind ?hloc ?_ ?c2 ?c3 ?c4 ?c5; (case ho => k_is); (case hcd => k_is); (case hbind => exact BindsTo.of_eq rfl); (case hloc => exact locs rfl); (case c2 => exact rfl); (case c3 => exact rfl); (case c4 => exact rfl); (case c5 => decide))
    intro h1 F N X T)
  all_goals (cases hv <;> first | exact hf.elim | skip)
  case lt.refine'_16.i n t => exact body_cmp F rfl rfl (lt_int (ret _ _ _ F.keep .b)) rfl rfl rfl
  case lt.refine'_16.b x => exact body_cmp F rfl rfl (lt_bi (ret _ _ _ F.keep .b)) rfl rfl rfl
  case le.refine'_16.i n t => exact body_cmp F rfl rfl (le_int (ret _ _ _ F.keep .b)) rfl rfl rfl
  case le.refine'_16.b x => exact body_cmp F rfl rfl (le_bi (ret _ _ _ F.keep .b)) rfl rfl rfl
  case eq.refine'_16.i n t => exact body_cmp F rfl rfl (eq_int (ret _ _ _ F.keep .b)) rfl rfl rfl
  case eq.refine'_16.b x => exact body_cmp F rfl rfl (EqBoolInt.eq_bool_int (ret _ _ _ F.keep .b)) rfl rfl rfl
  case ne.refine'_16.i n t => exact body_cmp F rfl rfl (ne_int (ret _ _ _ F.keep .b)) rfl rfl rfl
  case ne.refine'_16.b x => exact body_cmp F rfl rfl (EqBoolInt.ne_bool_int (ret _ _ _ F.keep .b)) rfl rfl rfl
  case ge.refine'_16.i n t => exact body_cmp F rfl rfl (ge_int (ret _ _ _ F.keep .b)) rfl rfl rfl
  case ge.refine'_16.b x => exact body_cmp F rfl rfl (ge_bi (ret _ _ _ F.keep .b)) rfl rfl rfl
  case gt.refine'_16.i n t => exact body_cmp F rfl rfl (gt_int (ret _ _ _ F.keep .b)) rfl rfl rfl
  case gt.refine'_16.b x => exact body_cmp F rfl rfl (gt_bi (ret _ _ _ F.keep .b)) rfl rfl rfl
  case sub.refine'_16.i n t => exact body_bin F rfl rfl (sub_int (ret _ _ _ F.keep .i)) rfl rfl rfl
  case floordiv.refine'_16.i n t =>
    refine body_bin F rfl rfl (floordiv_int_or hh (fun h0 h' tk x hx => ?_) (fun h0 => ?_) fun _ => .inl (PyProof.noPylong_small ?_)) rfl rfl rfl
    · exact leave_newS B hx F N (fun h'' r1 _ r3 => rzd (if_pos h0) _ _ _ ⟨r1, r3⟩) rfl
    · exact ret _ _ _ F.keep (by show Bears _ (if e = 0 then _ else _); rw [if_neg h0]; exact .i)
    · exact hf
  case mod.refine'_16.i n t =>
    refine body_bin F rfl rfl (mod_int_or hh (fun h0 h' tk x hx => ?_) (fun h0 => ?_)) rfl rfl rfl
    · exact leave_newS B hx F N (fun h'' r1 _ r3 => rzd (if_pos h0) _ _ _ ⟨r1, r3⟩) rfl
    · exact ret _ _ _ F.keep (by show Bears _ (if e = 0 then _ else _); rw [if_neg h0]; exact .i)
  case rshift.refine'_16.i n t =>
    refine body_bin F rfl rfl (rshift_int_or hh (fun h0 h' tk x hx => ?_) (fun h0 => ?_)) rfl rfl rfl
    · exact leave_newS B hx F N (fun h'' r1 _ r3 => rve (if_pos h0) _ _ _ ⟨r1, r3⟩) rfl
    · exact ret _ _ _ F.keep (by show Bears _ (if e < 0 then _ else _); rw [if_neg (by omega)]; exact .i)
  case lshift.refine'_16.i n t =>
    refine body_bin F rfl rfl (lshift_int_or hh (fun h0 h' tk x hx => ?_) (fun _ => bits_add_le hf.1 hf.2) (fun h0 => ?_)) rfl rfl rfl
    · exact leave_newS B hx F N (fun h'' r1 _ r3 => rve (if_pos h0) _ _ _ ⟨r1, r3⟩) rfl
    · exact ret _ _ _ F.keep (by show Bears _ (if e < 0 then _ else _); rw [if_neg (by omega)]; exact .i)
  case ipow.refine'_16.i n t =>
    refine wpAny_execs_cons (wpAny_AugAssign_Name (ldn F rfl (ld F rfl (ipow_int_small hf.2.1 hf.2.2 hf.1 (st F fun h' F' => ?_)))))
    exact wpAny_execs_cons (wpAny_Return_some (ld F' rfl (ret _ _ _ F'.keep .i)))
end Mine
end

/- A3 -/
section
open PySem PySem.W PySem.Spec PySem.Calls PyProof.Rows
set_option Elab.async false
set_option maxRecDepth 100000
namespace Mine

theorem fillNow3 (w : World) (base : Heap) : PySem.Challenge.rw_mr0096_01.name = PySem.Challenge.rw_mr0096_01.name ∨ (hd.heap_39 w.params).In base := by
  k_fill
  exact Or.inl rfl

def fold (d : Deed) : Res → List Int → Res
  | v, [] => v
  | v, e :: r => match step d v e with
    | .zd => .zd
    | .ve => .ve
    | u => fold d u r

def FitAll (d : Deed) : Res → List Int → Prop
  | _, [] => True
  | v, e :: r => Fit d v e ∧ match step d v e with
    | .zd => True
    | .ve => True
    | u => FitAll d u r

theorem fold_go {d : Deed} {V : Res} {e : Int} {r : List Int} {v : Value} (h : Bears v (step d V e)) : fold d V (e :: r) = fold d (step d V e) r := by
  unfold fold
  generalize step d V e = u at h
  cases h <;> (cases r <;> rfl)
theorem fold_zd {d : Deed} {V : Res} {e : Int} {r : List Int} (h : step d V e = .zd) : fold d V (e :: r) = .zd := by
  unfold fold
  rw [h]
theorem fold_ve {d : Deed} {V : Res} {e : Int} {r : List Int} (h : step d V e = .ve) : fold d V (e :: r) = .ve := by
  unfold fold
  rw [h]
theorem fit_go {d : Deed} {V : Res} {e : Int} {r : List Int} {v : Value} (h : Bears v (step d V e)) (hf : FitAll d V (e :: r)) : FitAll d (step d V e) r := by
  unfold FitAll at hf
  generalize step d V e = u at h hf
  cases h <;> exact hf.2

theorem fn_of {K : Frag} {h : Heap} {f : Addr} {oc : Value} {od : Option Addr} {fd : FuncData} {osl : Array (Option Value)} (X : K.In h) (ho : K.lookup f = some ⟨oc, od, .func fd, osl⟩) : ∃ o fd, h.get? f = some o ∧ o.data = .func fd := ⟨_, fd, X _ _ ho, rfl⟩
theorem deed_fn (d : Deed) {w : World} {h : Heap} (X : (hd.heap_39 w.params).In h) : ∃ o fd, h.get? d.at = some o ∧ o.data = .func fd := by
  cases d <;> (k_dflt (refine' fn_of X ?h; (case h => k_is)))

section
variable {prog : Program} {w : World} {A : Around} {s : Shared} {Q : Value → Shared → Prop} {E : Value → Shared → Prop}
theorem iter_list {l : Addr} {items : Array Value} (hl : s.heap.IsList l items)
    (h : Q (.ref s.heap.objs.size) { s with heap := s.heap.push { cls := .type "list_iterator", data := .fields #[.ref l, .int 0 0] } }) :
    wpAny (model prog w) A (call (.builtin "iter") [.ref l]) Q E s := by
  refine call_function_entry (by decide +kernel) (by decide +kernel) kdk_entry_iter (kdk_args_iter _) ?_
  unfold Builtin.«iter»
  refine wpAny_bind (m := someArgs "iter" 1 2 _) (wpAny_of_eq (a := [Value.ref l]) (by first | rfl | kernel_rfl!) ?_)
  show wpAny _ _ (pyIter (.ref l) >>= _) _ _ _
  refine wpAny_bind (wpAny_pyIter_list hl ?_)
  exact wpAny_pure ⟨_, rfl, h⟩

theorem next_list {it l : Addr} {i : Nat} {items : Array Value} {x : Value} (hit : s.heap.IsListIter it l i) (hl : s.heap.IsList l items) (hx : items[i]? = some x)
    (hQ : ∀ h', h'.IsListIter it l (i + 1) → Heap.SameBut it s.heap h' → Q x { s with heap := h' }) :
    wpAny (model prog w) A (call (.builtin "next") [.ref it]) Q E s := by
  obtain ⟨o, ho, hc, hd⟩ := id hit
  obtain ⟨ol, hol, _, nl, hdl⟩ := hl
  refine call_function_entry (by decide +kernel) (by decide +kernel) kdk_entry_next (kdk_args_next _) ?_
  unfold Builtin.«next»
  refine wpAny_bind (m := someArgs "next" 1 2 _) (wpAny_of_eq (a := [Value.ref it]) (by first | rfl | kernel_rfl!) ?_)
  dsimp only
  refine wpAny_bind (wpAny_specialOf (name := Str.ofString "__next__") hit.typeIs slot_listiter_next.lookup ?_)
  refine wpAny_ite_split (fun hab => absurd hab (by decide)) (fun _ => ?_)
  refine wpAny_bind (wpAny_callSpecial?_slot (name := Str.ofString "__next__") hit.typeIs slot_listiter_next
    (wpAny_call_entry slot_listiter_next hit.typeIs entry_listiter_next ?_ (args_listiter_next _)))
  show wpAny _ _ (field (.ref it) 0 >>= _) _ _ s
  refine wpAny_bind (wpAny_field ho hd (x := .ref l) rfl ?_)
  show wpAny _ _ (if (Value.ref l == Value.none) = true then _ else _) _ _ s
  rw [if_neg (show ¬ ((Value.ref l == Value.none) = true) from Bool.false_ne_true)]
  show wpAny _ _ (field (.ref it) 1 >>= _) _ _ s
  refine wpAny_bind (wpAny_field ho hd (x := .int i 0) rfl ?_)
  show wpAny _ _ (seqItems? (.ref l) >>= _) _ _ s
  refine wpAny_bind (wpAny_seqItems hol hdl ?_)
  simp only [Int.toNat_natCast, hx]
  refine wpAny_bind (wpAny_setField ho hd (by simp) (wpAny_pure ⟨x, rfl, ?_⟩))
  refine wpAny_pure ⟨_, rfl, hQ _ ?_ (Heap.SameBut.update ..)⟩
  exact ⟨_, Heap.get?_update_self _ ho (Obj.isFreed_of_fields (Obj.data_mapFields hd _)), (Obj.cls_mapFields ..).trans hc, by
    rw [Obj.data_mapFields hd]; simp [rawInt]⟩
end

theorem Fr.ext {g h h' : Heap} {L I : Addr} {m : Str → Option Value} (F : Fr g L h m) (hs : Heap.ExtBut I h h') (hI : I ≠ L) (hn : g.get? I = none) : Fr g L h' m := by
  obtain ⟨oL, es, ep, hL, r⟩ := F.ns
  refine ⟨⟨oL, es, ep, hs L oL (Ne.symm hI) hL, r⟩, fun b o e => hs b o (fun q => ?_) (F.keep b o e), F.above⟩
  rw [q, hn] at e
  cases e

def IterObj (o : Obj) (l : Addr) (k : Nat) : Prop := o.cls = .type "list_iterator" ∧ o.data = .fields #[.ref l, .int k 0]

theorem drop_cons {ns : List Int} {k : Nat} (h : k < ns.length) : ns.drop k = ns[k] :: ns.drop (k + 1) := List.drop_eq_getElem_cons h

set_option maxHeartbeats 4000000 in
theorem red_for (d : Deed) {w : World} {mean : ExcName → Option Value} {mg mb : Str → Option Value} {base g : Heap} {frs : List Env} {A : Around} {s : Shared} {Q : Flow → Shared → Prop} {E : Value → Shared → Prop}
    {name : Str} {scope : Scope} {L f l I : Addr} {cd : Value} {m : Str → Option Value} {vs : List Value} {ns : List Int} {k : Nat} {o : Obj} {v : Value} {V : Res} {p1 p2 p3 p4 p5 p6 p7 p8 p9 : Pos}
    (G : Ba w mean mg mb base) (B : Below A base frs g) (R : Room A 2) (hl : g.IsList l vs.toArray) (hi : IntsAre vs ns)
    (F : Fr g L s.heap m) (N : News g L s.heap [(I, o)]) (hI : IterObj o l k)
    (mf : m "function" = some (.ref d.at)) (mi : m "it" = some (.ref I)) (mv : m "value" = some v) (hv : Bears v V) (hf : FitAll d V (ns.drop k)) (hk9 : k ≤ ns.length)
    (done : ∀ v' m' h' tk', Fr g L h' m' → m' "value" = some v' → Bears v' (fold d V (ns.drop k)) → Q .next { s with heap := h', toks := tk' })
    (rzd : fold d V (ns.drop k) = .zd → ∀ x hc m' h' tk', Fr g L hc m' → Refused base hc (envOf name scope L f cd :: frs) "ZeroDivisionError" x h' → E (.ref x) { s with heap := h', toks := tk' })
    (rve : fold d V (ns.drop k) = .ve → ∀ x hc m' h' tk', Fr g L hc m' → Refused base hc (envOf name scope L f cd :: frs) "ValueError" x h' → E (.ref x) { s with heap := h', toks := tk' })
    (hE : PassesOwn (model PySem.Challenge.rw_mr0096_01.row.prog w) (A.deeper (envOf name scope L f cd)) (envOf name scope L f cd) E)
    (hk : scope.kind = .function) (k1 : (envOf name scope L f cd).kindOf "function" = some .local) (k2 : (envOf name scope L f cd).kindOf "it" = some .local)
    (k3 : (envOf name scope L f cd).kindOf "value" = some .local) (k4 : (envOf name scope L f cd).kindOf "element" = some .local) :
    wpAny (model PySem.Challenge.rw_mr0096_01.row.prog w) (A.deeper (envOf name scope L f cd))
      (exec (.For (.Name "element" p1) (.Name "it" p2) [.Assign [.Name "value" p3] (.Call (.Name "function" p4) [.Name "value" p5, .Name "element" p6] [] p7) p8] [] p9) (envOf name scope L f cd)) Q E s := by
  have XB := G.X
  have TB := G.T
  have nI := N _ (List.Mem.head _)
  refine wpAny_For (ld F mi (wpAny_pyIter_listiter (l := l) (i := k) ⟨o, nI.1, hI.1, hI.2⟩ ?_) hk k2)
  refine codeAny_forLoop (fun n s' => ∃ k' h' tk' m' v' V' o', n = ns.length - k' ∧ k' ≤ ns.length ∧ s' = { s with heap := h', toks := tk' } ∧ Fr g L h' m' ∧ News g L h' [(I, o')] ∧ IterObj o' l k' ∧
    m' "function" = some (.ref d.at) ∧ m' "it" = some (.ref I) ∧ m' "value" = some v' ∧ Bears v' V' ∧ FitAll d V' (ns.drop k') ∧ fold d V' (ns.drop k') = fold d V (ns.drop k)) ?_ (ns.length - k) ⟨k, s.heap, s.toks, m, v, V, o, rfl, hk9, rfl, F, N, hI, mf, mi, mv, hv, hf, rfl⟩
  rintro n _ ⟨k', h', tk', m', v', V', o', rfl, hk', rfl, F', N', hI', mf', mi', mv', hv', hf', he⟩
  have nI' := N' _ (List.Mem.head _)
  have hit : h'.IsListIter I l k' := ⟨o', nI'.1, hI'.1, hI'.2⟩
  have hls : h'.IsList l vs.toArray := hl.at fun o e => F'.keep l o e
  have hlen : vs.length = ns.length := hi.length
  rcases Nat.lt_or_ge k' ns.length with hlt | hge
  · obtain ⟨t, hx⟩ := hi.get k' ns[k'] (by simp [hlt])
    rw [drop_cons hlt] at hf' he
    refine wpAny_pyNext_list_item hit hls (x := .int ns[k'] t) (by simpa using hx) fun h2 hit2 hs2 => ?_
    have F2 : Fr g L h2 m' := F'.change hs2 nI'.2.1 nI'.2.2
    obtain ⟨o2, ho2, hc2, hd2⟩ := hit2
    have N2 : News g L h2 [(I, o2)] := fun q hq => by rw [List.mem_singleton.mp hq]; exact ⟨ho2, nI'.2.1, nI'.2.2⟩
    refine wpAny_assign_Name (stN F2 N2 (fun h3 F3 N3 => ?_) hk k4)
    refine wpAny_passesOwn hE ?_
    have X3 : (hd.heap_39 w.params).In h3 := (XB.keeps B.stays).keeps F3.keep
    obtain ⟨od, fd, hod, hfd⟩ := deed_fn d X3
    have B3 := pushX B F3 (env := envOf name scope L f cd) rfl hk
    refine wpAny_execs_cons (wpAny_Assign_Name (Call_Name rfl (ld F3 ((if_neg (by decide)).trans mf') (callWith_function (o := od) (fd := fd) (evalArgs_plain (spliced_cons (ld F3 (v := v') ((if_neg (by decide)).trans mv')
      (spliced_cons (ld F3 (v := .int ns[k'] t) (by simp) (spliced_nil ⟨⟨hod, hfd⟩, ?_⟩) hk k4)) hk k3)))) hk k1)))
    refine deed_call d G B3 R.deeper hv' hf'.1 (fun v4 h4 tk4 st4 hb4 => ?_) (fun hz x h4 tk4 r4 => ?_) (fun hz x h4 tk4 r4 => ?_)
    · have F4 : Fr g L h4 _ := Fr.after F3 st4
      have N4 : News g L h4 [(I, o2)] := fun q hq => ⟨st4 _ _ (N3 q hq).1, (N3 q hq).2⟩
      refine stN F4 N4 (fun h5 F5 N5 => ?_) hk k3
      refine wpAny_execs_nil ?_
      refine ⟨ns.length - (k' + 1), by omega, k' + 1, h5, _, _, v4, step d V' ns[k'], o2, rfl, hlt, rfl, F5, N5, ⟨hc2, hd2⟩, ?_, ?_, ?_, hb4, fit_go hb4 hf', (fold_go hb4).symm.trans he⟩
      · exact (if_neg (by decide)).trans ((if_neg (by decide)).trans mf')
      · exact (if_neg (by decide)).trans ((if_neg (by decide)).trans mi')
      · simp
    · exact rzd (he ▸ fold_zd hz) x _ _ _ _ F3 r4
    · exact rve (he ▸ fold_ve hz) x _ _ _ _ F3 r4
  · have hz : ns.drop k' = [] := List.drop_eq_nil_of_le hge
    rw [hz] at he
    refine wpAny_pyNext_list_end (by exact R.hh) hit hls (by simp; omega) fun h2 hs2 => ?_
    refine wpAny_execs_nil (done v' m' h2 _ (Fr.ext F' hs2 nI'.2.1 nI'.2.2) mv' ?_)
    rw [← he]; exact hv'
end Mine
end

/- A4 -/
section
open PySem PySem.W PySem.Spec PySem.Calls PyProof.Rows
set_option Elab.async false
set_option maxRecDepth 100000
namespace Mine

theorem fillNow4 (w : World) (base : Heap) : PySem.Challenge.rw_mr0096_01.name = PySem.Challenge.rw_mr0096_01.name ∨ (hd.heap_39 w.params).In base := by
  k_fill
  exact Or.inl rfl

theorem binds_dflt {K : Frag} {s : Shared} {fd : FuncData} {args : Args} {binds : List (Str × Value)} {T : Addr} {oc : Value} {od : Option Addr} {osl : Array (Option Value)} {items : Array Value} {n : Nat}
    {k : Option (Array Value) → Sem (List (Str × Value))} (X : K.In s.heap) (hd : fd.defaults = .ref T) (ho : K.lookup T = some ⟨oc, od, .seq items n, osl⟩)
    (h₁ : bindArgs fd args = seqItems? fd.defaults >>= k) (h₂ : k (some items) = pure binds) : BindsTo s fd args binds := BindsTo.of_defaults hd (X _ _ ho) rfl h₁ h₂

set_option maxHeartbeats 8000000 in
theorem reduce3 (d : Deed) {w : World} {mean : ExcName → Option Value} {mg mb : Str → Option Value} {base : Heap} {frs : List Env} {A : Around} {s : Shared} {Q E : Value → Shared → Prop} {l : Addr} {vs : List Value} {ns : List Int} {x : Int} {t : Tok}
    (G : Ba w mean mg mb base) (B : Below A base frs s.heap) (R : Room A 3) (hl : s.heap.IsList l vs.toArray) (hi : IntsAre vs ns) (hf : FitAll d (.i x) ns)
    (ret : ∀ v' h' tk', s.heap.StaysIn h' → Bears v' (fold d (.i x) ns) → Q v' { s with heap := h', toks := tk' })
    (rzd : fold d (.i x) ns = .zd → ∀ x h' tk', Refused base s.heap frs "ZeroDivisionError" x h' → E (.ref x) { s with heap := h', toks := tk' })
    (rve : fold d (.i x) ns = .ve → ∀ x h' tk', Refused base s.heap frs "ValueError" x h' → E (.ref x) { s with heap := h', toks := tk' }) :
    wpAny (model PySem.Challenge.rw_mr0096_01.row.prog w) A (call (.ref 23) [.ref d.at, .ref l, .int x t]) Q E s := by
  have XB := G.X
  have TB := G.T
  refine wpAny_call ?_
  k_dflt (refine' enter [("function", .ref d.at), ("sequence", .ref l), ("initial", .int x t)] XB TB B ?ho ?hcd R.now ?hbind ?hloc ?_ ?c2 ?c3 ?c4 ?c5; (case ho => k_is); (case hcd => k_is); (case hbind => (refine' binds_dflt (XB.keeps B.stays) ?b1 ?b2 ?b3 ?b4; (case b1 => exact rfl); (case b2 => k_is); (case b3 => exact rfl); (case b4 => exact rfl))); (case hloc => exact locs rfl); (case c2 => exact rfl); (case c3 => exact rfl); (case c4 => exact rfl); (case c5 => decide))
  intro h1 F N X T
  have TR := topRead_of T
  have hl1 : h1.IsList l vs.toArray := hl.at fun o e => F.keep l o e
  refine wpAny_execs_cons (wpAny_Assign_Name (Call_Name1 (name_B F X TR (by k_is) (by boot_by_name) (by decide) (callWith_builtin1 (ld F rfl (iter_list hl1 ?_))))))
  refine stN (F.push _) (N.push F _) fun h2 F2 N2 => ?_
  refine wpAny_execs_cons (wpAny_If (wpAny_isTrue_Compare1 (ld F2 rfl (name_K F2 X TR (by k_is) (wpAny_is_other rfl (by intro h; cases h) (wpAny_truthy_bool ?_))))))
  refine wpAny_execs_cons (wpAny_Assign_Name (ld F2 rfl (stN F2 N2 fun h3 F3 N3 => wpAny_execs_nil ?_)))
  refine wpAny_execs_cons (red_for d G B (R.less (by decide)) hl hi F3 N3 (k := 0) (v := .int x t) (V := .i x) ⟨rfl, rfl⟩ rfl rfl rfl .i hf (Nat.zero_le _) (fun v4 m4 h4 tk4 F4 mv4 hb4 => ?_) (fun hz y hc m' h' tk' Fc r => ?_) (fun hz y hc m' h' tk' Fc r => ?_) PassesOwn.leaving rfl rfl rfl rfl rfl)
  · exact wpAny_execs_cons (wpAny_Return_some (ld F4 mv4 (ret _ _ _ F4.keep hb4)))
  · exact leave_onSN B Fc r.1 r.2 fun h'' r1 _ r3 => rzd hz _ _ _ ⟨r1, r3⟩
  · exact leave_onSN B Fc r.1 r.2 fun h'' r1 _ r3 => rve hz _ _ _ ⟨r1, r3⟩
set_option maxHeartbeats 8000000 in
theorem reduce2 (d : Deed) {w : World} {mean : ExcName → Option Value} {mg mb : Str → Option Value} {base : Heap} {frs : List Env} {A : Around} {s : Shared} {Q E : Value → Shared → Prop} {l : Addr} {vs : List Value} {ns : List Int} {x : Int}
    (G : Ba w mean mg mb base) (B : Below A base frs s.heap) (R : Room A 3) (hl : s.heap.IsList l vs.toArray) (hi : IntsAre vs (x :: ns)) (hf : FitAll d (.i x) ns)
    (ret : ∀ v' h' tk', s.heap.StaysIn h' → Bears v' (fold d (.i x) ns) → Q v' { s with heap := h', toks := tk' })
    (rzd : fold d (.i x) ns = .zd → ∀ x h' tk', Refused base s.heap frs "ZeroDivisionError" x h' → E (.ref x) { s with heap := h', toks := tk' })
    (rve : fold d (.i x) ns = .ve → ∀ x h' tk', Refused base s.heap frs "ValueError" x h' → E (.ref x) { s with heap := h', toks := tk' }) :
    wpAny (model PySem.Challenge.rw_mr0096_01.row.prog w) A (call (.ref 23) [.ref d.at, .ref l]) Q E s := by
  have XB := G.X
  have TB := G.T
  refine wpAny_call ?_
  k_dflt (refine' enter [("function", .ref d.at), ("sequence", .ref l), ("initial", .ref 15)] XB TB B ?ho ?hcd R.now ?hbind ?hloc ?_ ?c2 ?c3 ?c4 ?c5; (case ho => k_is); (case hcd => k_is); (case hbind => (refine' binds_dflt (XB.keeps B.stays) ?b1 ?b2 ?b3 ?b4; (case b1 => exact rfl); (case b2 => k_is); (case b3 => exact rfl); (case b4 => exact rfl))); (case hloc => exact locs rfl); (case c2 => exact rfl); (case c3 => exact rfl); (case c4 => exact rfl); (case c5 => decide))
  intro h1 F N X T
  have TR := topRead_of T
  have hl1 : h1.IsList l vs.toArray := hl.at fun o e => F.keep l o e
  refine wpAny_execs_cons (wpAny_Assign_Name (Call_Name1 (name_B F X TR (by k_is) (by boot_by_name) (by decide) (callWith_builtin1 (ld F rfl (iter_list hl1 ?_))))))
  refine stN (F.push _) (N.push F _) fun h2 F2 N2 => ?_
  obtain ⟨t, hx⟩ := hi.get 0 x rfl
  refine wpAny_execs_cons (wpAny_If (wpAny_isTrue_Compare1 (ld F2 rfl (name_K F2 X TR (by k_is) (wpAny_is_ref_self (wpAny_truthy_bool ?_))))))
  have n2 := N2 _ (List.Mem.head _)
  refine wpAny_execs_cons (wpAny_Try_except ?_)
  refine wpAny_execs_cons (wpAny_Assign_Name (Call_Name1 (name_B F2 X TR (by k_is) (by boot_by_name) (by decide) (callWith_builtin1 (ld F2 rfl (next_list (l := l) (i := 0) (items := vs.toArray) (x := .int x t) ⟨_, n2.1, rfl, rfl⟩ (hl.at fun o e => F2.keep l o e) (by simpa using hx) fun h3 hit3 hs3 => ?_))))))
  obtain ⟨o3, ho3, hc3, hd3⟩ := hit3
  have F3 := F2.change hs3 n2.2.1 n2.2.2
  have N3 : News s.heap s.heap.objs.size h3 [(h1.objs.size, o3)] := fun q hq => by rw [List.mem_singleton.mp hq]; exact ⟨ho3, n2.2.1, n2.2.2⟩
  refine stN F3 N3 fun h4 F4 N4 => wpAny_execs_nil (wpAny_execs_nil (wpAny_execs_nil ?_))
  refine wpAny_execs_cons (red_for d G B (R.less (by decide)) hl hi F4 N4 (k := 1) (v := .int x t) (V := .i x) ⟨hc3, hd3⟩ rfl rfl rfl .i hf (by simp) (fun v4 m4 h4 tk4 F4 mv4 hb4 => ?_) (fun hz y hc m' h' tk' Fc r => ?_) (fun hz y hc m' h' tk' Fc r => ?_) PassesOwn.leaving rfl rfl rfl rfl rfl)
  · exact wpAny_execs_cons (wpAny_Return_some (ld F4 mv4 (ret _ _ _ F4.keep hb4)))
  · exact leave_onSN B Fc r.1 r.2 fun h'' r1 _ r3 => rzd hz _ _ _ ⟨r1, r3⟩
  · exact leave_onSN B Fc r.1 r.2 fun h'' r1 _ r3 => rve hz _ _ _ ⟨r1, r3⟩
end Mine
end

/- A5 -/
section
open PySem PySem.W PySem.Spec PySem.Calls PyProof.Rows
set_option Elab.async false
set_option maxRecDepth 100000
namespace Mine

theorem fillNow5 (w : World) (base : Heap) : PySem.Challenge.rw_mr0096_01.name = PySem.Challenge.rw_mr0096_01.name ∨ (hd.heap_39 w.params).In base := by
  k_fill
  exact Or.inl rfl

/-- all is kept, but for the slots of the frames on the stack -/
structure After (frs : List Env) (h h' : Heap) : Prop where
  other : ∀ b o, h.get? b = some o → b ∉ frs.filterMap (·.frame) → h'.get? b = some o
  frame : ∀ b o, h.get? b = some o → b ∈ frs.filterMap (·.frame) → ∃ sl, h'.get? b = some { o with slots := sl }

theorem After.of_stays {frs : List Env} {h h' : Heap} (k : h.StaysIn h') : After frs h h' := ⟨fun b o e _ => k b o e, fun b o e _ => ⟨o.slots, k b o e⟩⟩
theorem After.of_turn {frs : List Env} {h g' h' : Heap} {L : Addr} {m : Str → Option Value} (T : KtsTurn (frs.filterMap (·.frame)) h g') (F : Fr g' L h' m) : After frs h h' :=
  ⟨fun b o e n => F.keep _ _ (T.other b o e n), fun b o e n => by obtain ⟨sl, hs⟩ := T.frame b o e n; exact ⟨sl, F.keep _ _ hs⟩⟩
theorem After.trans {frs : List Env} {h h' h'' : Heap} (x : After frs h h') (y : After frs h' h'') : After frs h h'' :=
  ⟨fun b o e n => y.other b o (x.other b o e n) n, fun b o e n => by obtain ⟨sl, hs⟩ := x.frame b o e n; obtain ⟨sl', hs'⟩ := y.frame b _ hs n; exact ⟨sl', hs'⟩⟩
theorem After.up {frs : List Env} {h h' : Heap} (x : After frs h h') {b : Addr} {o : Obj} (e : h.get? b = some o) : ∃ sl, h'.get? b = some { o with slots := sl } := by
  by_cases m : b ∈ frs.filterMap (·.frame)
  · exact x.frame b o e m
  · exact ⟨o.slots, x.other b o e m⟩
theorem After.below {A : Around} {base : Heap} {frs : List Env} {h h' : Heap} (x : After frs h h') (B : Below A base frs h) : Below A base frs h' :=
  ⟨B.stack, fun b o e => x.other b o (B.stays b o e) (fun hm => by rw [(B.frames.mem hm).1] at e; cases e), B.frames.of_keeps fun b o e _ => by
    obtain ⟨sl, hs⟩ := x.up e
    exact ⟨_, hs, rfl⟩⟩

inductive Told : Value → Res → Prop where
  | of {v : Value} {V : Res} : Bears v V → Told v V
  | zd {t : Tok} : Told (.str (Str.ofString "by nought") t) .zd
  | ve {t : Tok} : Told (.str (Str.ofString "by less") t) .ve

theorem Told.zd' {V : Res} {t : Tok} (h : V = .zd) : Told (.str (Str.ofString "by nought") t) V := by rw [h]; exact .zd
theorem Told.ve' {V : Res} {t : Tok} (h : V = .ve) : Told (.str (Str.ofString "by less") t) V := by rw [h]; exact .ve

section
variable {prog : Program} {w : World} {A₀ : Around} {E : Value → Shared → Prop} {s' : Shared} {base g G : Heap} {outer : List Env} {L a e : Addr} {m : Str → Option Value} {name : Str} {scope : Scope} {cd : Value}
  {b₀ b₁ : Stmt} {suite suite₁ : List Stmt} {pos np pos₁ np₁ : Pos} {rest : List ExceptHandler} {Q : Flow → Shared → Prop} {KF : Frag}
  {p : Program} {loose : List Str} {mean : ExcName → Option Value} {mg mb : Str → Option Value} {x y : Str} {X T' T₁ : String}

theorem caught_first (R : Refused base G (envOf name scope L a cd :: outer) X e s'.heap) (F : Fr g L G m) (K : Below A₀ base outer g) (XB : KF.In base) (TB : Top p loose mean mg mb base)
    (ex : nsIn KF mainGlobals x = some none) (hv : bootBuiltins x = some (.type T')) (hn' : x ≠ "__name__")
    (hexc : isSubtype (.type T') (.type "BaseException") = pure true) (hnt : isSubtype (.type ((Manifest.find? T').elim "type" fun y => y.metatype)) (.type "tuple") = pure false) (hsub : isSubtype (.type X) (.type T') = pure true)
    (k : ∀ h' g', KtsTurn (outer.filterMap (·.frame)) g g' → Fr g' L h' m →
      wpAny (model prog w) ((A₀.deeper (envOf name scope L a cd)).mark (some (.ref e))) (execs (b₀ :: suite) (envOf name scope L a cd)) Q E { s' with heap := h' })
    (hk : scope.kind = .function) (hx : (envOf name scope L a cd).kindOf x = some .globalImplicit) (hd : (x == ("__debug__" : Str)) = false)
    (hE : PassesOwnAt (model prog w) ((A₀.deeper (envOf name scope L a cd)).mark (some (.ref e))) (A₀.deeper (envOf name scope L a cd)) (envOf name scope L a cd) E) :
    wpAny (model prog w) (A₀.deeper (envOf name scope L a cd)) (noteFrame (.ref e) (envOf name scope L a cd))
      (fun _ s₂ => wpAny (model prog w) (A₀.deeper (envOf name scope L a cd)) (setFlight (.ref e) none) (fun _ s₃ =>
        wpAny (model prog w) (A₀.deeper (envOf name scope L a cd)) (handleBy (.ref e) (envOf name scope L a cd) (.ExceptHandler (some (.Name x np)) none (b₀ :: suite) pos :: rest)) Q E s₃) E s₂) E s' := by
  obtain ⟨⟨B, a0, hB, hBG, hl, hfl⟩, hsm⟩ := R
  refine wpAny_looks_onW (Around.frames_deeper K.stack) rfl hfl fun h₄ hheld₄ hsm₄ => ?_
  refine wpAny_landsW hheld₄ fun h₅ hheld hsm₅' => ?_
  have hsm₅ := hsm₄.trans hsm₅'
  obtain ⟨g₅, T₅, F₅, K₅⟩ := kts_ground K F hBG hheld.1 (hsm.trans hsm₅)
  have X₅ : KF.In g₅ := XB.keeps K₅.stays
  have P₅ : TopRead p loose mg mb g₅ := topRead_of (TB.keeps K₅.stays)
  obtain ⟨ob, hob, hobc⟩ := hheld.there
  refine wpAny_handleBy_builtin (X := X) (T := T') (b := true) hexc hnt hsub (name_B F₅ X₅ P₅ ex hv hn' ⟨rfl, ⟨ob, hob, hobc⟩, ?_⟩ hk hx hd)
  refine lands_againW hheld fun h₆ hfl₆ hsm₆ => ?_
  obtain ⟨g₆, T₆, F₆, K₆⟩ := kts_ground K F hBG hfl₆.1 ((hsm.trans hsm₅).trans hsm₆)
  exact wpAny_passesOwnAt hE (k h₆ g₆ T₆ F₆)

theorem caught_second (R : Refused base G (envOf name scope L a cd :: outer) X e s'.heap) (F : Fr g L G m) (K : Below A₀ base outer g) (XB : KF.In base) (TB : Top p loose mean mg mb base)
    (ex₁ : nsIn KF mainGlobals y = some none) (hv₁ : bootBuiltins y = some (.type T₁)) (hn₁ : y ≠ "__name__")
    (hexc₁ : isSubtype (.type T₁) (.type "BaseException") = pure true) (hnt₁ : isSubtype (.type ((Manifest.find? T₁).elim "type" fun y => y.metatype)) (.type "tuple") = pure false) (hsub₁ : isSubtype (.type X) (.type T₁) = pure false)
    (ex : nsIn KF mainGlobals x = some none) (hv : bootBuiltins x = some (.type T')) (hn' : x ≠ "__name__")
    (hexc : isSubtype (.type T') (.type "BaseException") = pure true) (hnt : isSubtype (.type ((Manifest.find? T').elim "type" fun y => y.metatype)) (.type "tuple") = pure false) (hsub : isSubtype (.type X) (.type T') = pure true)
    (k : ∀ h' g', KtsTurn (outer.filterMap (·.frame)) g g' → Fr g' L h' m →
      wpAny (model prog w) ((A₀.deeper (envOf name scope L a cd)).mark (some (.ref e))) (execs (b₀ :: suite) (envOf name scope L a cd)) Q E { s' with heap := h' })
    (hk : scope.kind = .function) (hx₁ : (envOf name scope L a cd).kindOf y = some .globalImplicit) (hd₁ : (y == ("__debug__" : Str)) = false) (hx : (envOf name scope L a cd).kindOf x = some .globalImplicit) (hd : (x == ("__debug__" : Str)) = false)
    (hE : PassesOwnAt (model prog w) ((A₀.deeper (envOf name scope L a cd)).mark (some (.ref e))) (A₀.deeper (envOf name scope L a cd)) (envOf name scope L a cd) E) :
    wpAny (model prog w) (A₀.deeper (envOf name scope L a cd)) (noteFrame (.ref e) (envOf name scope L a cd))
      (fun _ s₂ => wpAny (model prog w) (A₀.deeper (envOf name scope L a cd)) (setFlight (.ref e) none) (fun _ s₃ =>
        wpAny (model prog w) (A₀.deeper (envOf name scope L a cd)) (handleBy (.ref e) (envOf name scope L a cd) (.ExceptHandler (some (.Name y np₁)) none (b₁ :: suite₁) pos₁ :: .ExceptHandler (some (.Name x np)) none (b₀ :: suite) pos :: rest)) Q E s₃) E s₂) E s' := by
  obtain ⟨⟨B, a0, hB, hBG, hl, hfl⟩, hsm⟩ := R
  refine wpAny_looks_onW (Around.frames_deeper K.stack) rfl hfl fun h₄ hheld₄ hsm₄ => ?_
  refine wpAny_landsW hheld₄ fun h₅ hheld hsm₅' => ?_
  have hsm₅ := hsm₄.trans hsm₅'
  obtain ⟨g₅, T₅, F₅, K₅⟩ := kts_ground K F hBG hheld.1 (hsm.trans hsm₅)
  have X₅ : KF.In g₅ := XB.keeps K₅.stays
  have P₅ : TopRead p loose mg mb g₅ := topRead_of (TB.keeps K₅.stays)
  obtain ⟨ob, hob, hobc⟩ := hheld.there
  refine wpAny_handleBy_builtin (X := X) (T := T₁) (b := false) hexc₁ hnt₁ hsub₁ (name_B F₅ X₅ P₅ ex₁ hv₁ hn₁ ⟨rfl, ⟨ob, hob, hobc⟩, ?_⟩ hk hx₁ hd₁)
  refine wpAny_handleBy_builtin (X := X) (T := T') (b := true) hexc hnt hsub (name_B F₅ X₅ P₅ ex hv hn' ⟨rfl, ⟨ob, hob, hobc⟩, ?_⟩ hk hx hd)
  refine lands_againW hheld fun h₆ hfl₆ hsm₆ => ?_
  obtain ⟨g₆, T₆, F₆, K₆⟩ := kts_ground K F hBG hfl₆.1 ((hsm.trans hsm₅).trans hsm₆)
  exact wpAny_passesOwnAt hE (k h₆ g₆ T₆ F₆)
end

theorem sub_ve_zd : isSubtype (.type "ValueError") (.type "ZeroDivisionError") = pure false := by rw [isSubtype_type]; kernel_rfl
theorem sub_ve_ve : isSubtype (.type "ValueError") (.type "ValueError") = pure true := by rw [isSubtype_type]; kernel_rfl
theorem sub_zd_zd : isSubtype (.type "ZeroDivisionError") (.type "ZeroDivisionError") = pure true := by rw [isSubtype_type]; kernel_rfl

theorem reduce_fn {w : World} {h : Heap} (X : (hd.heap_39 w.params).In h) : ∃ o fd, h.get? 23 = some o ∧ o.data = .func fd := by
  k_dflt (refine' fn_of X ?h; (case h => k_is))

set_option maxHeartbeats 8000000 in
theorem told_call (d : Deed) (ap : Bool) {w : World} {mean : ExcName → Option Value} {mg mb : Str → Option Value} {base : Heap} {frs : List Env} {A : Around} {s : Shared} {Q E : Value → Shared → Prop} {l : Addr} {vs : List Value} {ns : List Int} {x : Int} {t : Tok}
    (G : Ba w mean mg mb base) (B : Below A base frs s.heap) (R : Room A 4) (hl : s.heap.IsList l vs.toArray) (hi : IntsAre vs ns) (hn : ns.length ≤ 1000) (hf : FitAll d (.i x) ns)
    (ret : ∀ v' h' tk', After frs s.heap h' → Told v' (fold d (.i x) ns) → Q v' { s with heap := h', toks := tk' }) :
    wpAny (model PySem.Challenge.rw_mr0096_01.row.prog w) A (call (.ref 114) [.ref d.at, .int x t, .ref l, .bool ap]) Q E s := by
  have XB := G.X
  have TB := G.T
  refine wpAny_call ?_
  k_dflt (refine' enter [("deed", .ref d.at), ("start", .int x t), ("others", .ref l), ("apart", .bool ap)] XB TB B ?ho ?hcd R.now ?hbind ?hloc ?_ ?c2 ?c3 ?c4 ?c5; (case ho => k_is); (case hcd => k_is); (case hbind => exact BindsTo.of_eq rfl); (case hloc => exact locs rfl); (case c2 => exact rfl); (case c3 => exact rfl); (case c4 => exact rfl); (case c5 => decide))
  intro h1 F N X T
  have TR := topRead_of T
  have hl1 : h1.IsList l vs.toArray := hl.at fun o e => F.keep l o e
  refine wpAny_execs_cons (wpAny_Try_except (wpAny_execs_cons (wpAny_If (isTrue_plain (ld F rfl (wpAny_truthy_bool ?_))))))
  cases ap with
  | true =>
    obtain ⟨ro, rfd, hro, hrfd⟩ := reduce_fn (X.keeps F.keep)
    refine wpAny_execs_cons (wpAny_Return_some (Call_Name rfl (name_K F X TR (by k_is) ?_)))
    refine callWith_function (o := ro) (fd := rfd) (evalArgs_plain (spliced_cons (ld F rfl (spliced_cons (ld F rfl (spliced_cons (ld F rfl (spliced_nil ⟨⟨hro, hrfd⟩, ?_⟩))))))))
    refine reduce3 d G (pushX B F rfl rfl) R.deeper hl1 hi hf (fun v2 h2 tk2 st2 hb2 => ?_) (fun hz y h2 tk2 r2 => ?_) (fun hz y h2 tk2 r2 => ?_)
    · exact ret _ _ _ (.of_stays fun b o e => st2 b o (F.keep b o e)) (.of hb2)
    · refine caught_first r2 F B XB TB (by k_is) PyProof.Rows.Boot.«ZeroDivisionError» (by decide) PySem.F.isExc_ZeroDivisionError PySem.F.notTuple_ZeroDivisionError sub_zd_zd (fun h3 g3 T3 F3 => ?_) rfl rfl (by decide) PassesOwnAt.leaving
      exact wpAny_execs_cons (wpAny_Return_some (wpAny_Constant_str (ret _ _ _ (.of_turn T3 F3) (Told.zd' hz))))
    · refine caught_second r2 F B XB TB (by k_is) PyProof.Rows.Boot.«ZeroDivisionError» (by decide) PySem.F.isExc_ZeroDivisionError PySem.F.notTuple_ZeroDivisionError sub_ve_zd
        (by k_is) PyProof.Rows.Boot.«ValueError» (by decide) PySem.F.isExc_ValueError PySem.F.notTuple_ValueError sub_ve_ve (fun h3 g3 T3 F3 => ?_) rfl rfl (by decide) rfl (by decide) PassesOwnAt.leaving
      exact wpAny_execs_cons (wpAny_Return_some (wpAny_Constant_str (ret _ _ _ (.of_turn T3 F3) (Told.ve' hz))))
  | false =>
    refine wpAny_execs_nil ?_
    have hlen := hi.length
    refine wpAny_execs_cons (wpAny_Return_some (Call_Name rfl (name_K F X TR (by k_is) ?_)))
    obtain ⟨ro, rfd, hro, hrfd⟩ := reduce_fn X
    refine callWith_function (o := ro) (fd := rfd) (evalArgs_plain (spliced_cons (ld F rfl (spliced_cons ?_))))
    refine wpAny_BinOp (List_ (spliced_cons (ld F rfl (spliced_nil (newList_N F N fun h2 F2 N2 => ld F2 rfl ?_)))))
    refine add_lists_ints (hsz := ?hz) F2 N2 (ns := [x]) (vs := [.int x t]) ⟨_, (N2 _ (List.Mem.head _)).1, rfl, _, rfl⟩ (hl.at fun o e => F2.keep l o e) (.cons x t .nil) hi (fun h3 F3 N3 hi3 => spliced_nil ⟨⟨F3.keep _ _ hro, hrfd⟩, ?_⟩)
    case hz => simp only [List.length_cons, List.length_nil, sizeLine_eq]; omega
    refine reduce2 d G (pushX B F3 rfl rfl) R.deeper ⟨_, (N3 _ (List.Mem.head _)).1, rfl, _, rfl⟩ hi3 hf (fun v2 h2 tk2 st2 hb2 => ?_) (fun hz y h2 tk2 r2 => ?_) (fun hz y h2 tk2 r2 => ?_)
    · exact ret _ _ _ (.of_stays fun b o e => st2 b o (F3.keep b o e)) (.of hb2)
    · refine caught_first r2 F3 B XB TB (by k_is) PyProof.Rows.Boot.«ZeroDivisionError» (by decide) PySem.F.isExc_ZeroDivisionError PySem.F.notTuple_ZeroDivisionError sub_zd_zd (fun h3 g3 T3 F3 => ?_) rfl rfl (by decide) PassesOwnAt.leaving
      exact wpAny_execs_cons (wpAny_Return_some (wpAny_Constant_str (ret _ _ _ (.of_turn T3 F3) (Told.zd' hz))))
    · refine caught_second r2 F3 B XB TB (by k_is) PyProof.Rows.Boot.«ZeroDivisionError» (by decide) PySem.F.isExc_ZeroDivisionError PySem.F.notTuple_ZeroDivisionError sub_ve_zd
        (by k_is) PyProof.Rows.Boot.«ValueError» (by decide) PySem.F.isExc_ValueError PySem.F.notTuple_ValueError sub_ve_ve (fun h3 g3 T3 F3 => ?_) rfl rfl (by decide) rfl (by decide) PassesOwnAt.leaving
      exact wpAny_execs_cons (wpAny_Return_some (wpAny_Constant_str (ret _ _ _ (.of_turn T3 F3) (Told.ve' hz))))
end Mine
end

/- A6 -/
section
open PySem PySem.W PySem.Spec PySem.Calls PyProof.Rows
set_option Elab.async false
set_option maxRecDepth 100000
namespace Mine

theorem fillNow6 (w : World) (base : Heap) : PySem.Challenge.rw_mr0096_01.name = PySem.Challenge.rw_mr0096_01.name ∨ (hd.heap_39 w.params).In base := by
  k_fill
  exact Or.inl rfl

/-- the ground behind a call that may have turned the frames' slots -/
theorem turned {A : Around} {base g h h' : Heap} {frs : List Env} {name : Str} {scope : Scope} {L a : Addr} {cd : Value} {m : Str → Option Value}
    (B : Below A base frs g) (F : Fr g L h m) (x : After (envOf name scope L a cd :: frs) h h') :
    ∃ g', KtsTurn (frs.filterMap (·.frame)) g g' ∧ Fr g' L h' m ∧ Below A base frs g' ∧ ∀ news, News g L h news → News g' L h' news := by
  have nL : ∀ b o, g.get? b = some o → b ∉ frs.filterMap (·.frame) → b ∉ (envOf name scope L a cd :: frs).filterMap (·.frame) := fun b o e n hm => by
    rcases kts_mem hm with z | z
    · rw [z, kts_self F] at e; cases e
    · exact n z
  obtain ⟨T, S⟩ := kts_turn_at (h := h') (fs := frs.filterMap (·.frame)) (g := g)
    (fun b hb => by obtain ⟨_, o, ho, _⟩ := B.frames.mem hb; exact ⟨o, ho⟩)
    (fun b o e n => x.other b o (F.keep b o e) (nL b o e n))
    (fun b o e hm => x.up (F.keep b o e))
  refine ⟨_, T, ⟨?_, S, by rw [T.size]; exact F.above⟩, ⟨B.stack, fun b o e => T.other b o (B.stays b o e) (fun hm => by rw [(B.frames.mem hm).1] at e; cases e), B.frames.of_keeps fun b o e _ => ?_⟩, fun news N p hp => ?_⟩
  · obtain ⟨o, es, ep, ho, hd, r⟩ := F.ns
    obtain ⟨sl, hs⟩ := x.up ho
    exact ⟨_, es, ep, hs, hd, r⟩
  · obtain ⟨sl, hs⟩ := T.up e
    exact ⟨_, hs, rfl⟩
  · have q := N p hp
    refine ⟨x.other _ _ q.1 (fun hm => ?_), q.2.1, T.none_ _ q.2.2⟩
    rcases kts_mem hm with z | z
    · exact q.2.1 z
    · obtain ⟨_, o, ho, _⟩ := B.frames.mem z
      rw [q.2.2] at ho; cases ho

theorem told_fn {w : World} {h : Heap} (X : (hd.heap_39 w.params).In h) : ∃ o fd, h.get? 114 = some o ∧ o.data = .func fd := by
  k_dflt (refine' fn_of X ?h; (case h => k_is))

section
variable {prog : Program} {w : World} {A : Around} {s : Shared} {Q : Value → Shared → Prop} {E : Value → Shared → Prop}
theorem told_same {v u : Value} {V : Res} (hv : Told v V) (hu : Told u V) (h : Q (.bool false) s) : wpAny (model prog w) A (compareOp .NotEq v u) Q E s := by
  cases hv with
  | of hv =>
    cases hv with
    | i =>
      cases hu with
      | of hu => cases hu; exact ne_int (by simpa using h)
    | b =>
      cases hu with
      | of hu => cases hu; exact ne_bool (by simpa using h)
  | zd =>
    cases hu with
    | of hu => cases hu
    | zd => exact ne_str (by simpa using h)
  | ve =>
    cases hu with
    | of hu => cases hu
    | ve => exact ne_str (by simpa using h)

def isB : Res → Bool
  | .b _ => true
  | _ => false
theorem told_kind {v : Value} {V : Res} (hv : Told v V) (h : ∀ tk, Q (.bool (isB V)) { s with toks := tk }) : wpAny (model prog w) A (call (.builtin "isinstance") [v, .type "bool"]) Q E s := by
  cases hv with
  | of hv =>
    cases hv with
    | i => exact IsiPair.int_bool (h _)
    | b => exact IsiPair.bool_bool (h s.toks)
  | zd => exact IsiPair.str_bool (h _)
  | ve => exact IsiPair.str_bool (h _)
end

set_option maxHeartbeats 8000000 in
theorem holds_call (d : Deed) {w : World} {mean : ExcName → Option Value} {mg mb : Str → Option Value} {base : Heap} {frs : List Env} {A : Around} {s : Shared} {Q E : Value → Shared → Prop} {l : Addr} {vs : List Value} {ns : List Int} {x : Int} {t : Tok} {due : Value}
    (G : Ba w mean mg mb base) (B : Below A base frs s.heap) (R : Room A 5) (hl : s.heap.IsList l vs.toArray) (hi : IntsAre vs ns) (hn : ns.length ≤ 1000) (hf : FitAll d (.i x) ns) (hdue : Told due (fold d (.i x) ns))
    (hlf : l ∉ frs.filterMap (·.frame))
    (ret : ∀ h' tk', After frs s.heap h' → Q (.bool true) { s with heap := h', toks := tk' }) :
    wpAny (model PySem.Challenge.rw_mr0096_01.row.prog w) A (call (.ref 121) [.ref d.at, .int x t, .ref l, due]) Q E s := by
  have XB := G.X
  have TB := G.T
  refine wpAny_call ?_
  k_dflt (refine' enter [("deed", .ref d.at), ("start", .int x t), ("others", .ref l), ("due", due)] XB TB B ?ho ?hcd R.now ?hbind ?hloc ?_ ?c2 ?c3 ?c4 ?c5; (case ho => k_is); (case hcd => k_is); (case hbind => exact BindsTo.of_eq rfl); (case hloc => exact locs rfl); (case c2 => exact rfl); (case c3 => exact rfl); (case c4 => exact rfl); (case c5 => decide))
  intro h1 F N X T
  refine wpAny_execs_cons (wpAny_For (Tuple_ (spliced_cons (Constant_bool (k := 0) (pos := ⟨52, 18, 52, 22⟩) (spliced_cons (Constant_bool (k := 0) (pos := ⟨52, 24, 52, 29⟩) (spliced_nil (newTuple_N F N fun h2 F2 N2 => ?_))))))))
  have n2 := N2 _ (List.Mem.head _)
  refine wpAny_pyIter_tuple (items := #[.bool true, .bool false]) ⟨_, n2.1, rfl, _, rfl⟩ ?_
  have F3 := F2.push { cls := .type "tuple_iterator", data := .fields #[.ref h1.objs.size, .int 0 0] }
  have N3 := N2.push F2 { cls := .type "tuple_iterator", data := .fields #[.ref h1.objs.size, .int 0 0] }
  refine codeAny_forLoop (fun n s' => ∃ (k' : Nat) (h' : Heap) (tk' : Nat) (m' : Str → Option Value) (g' : Heap) (o' to : Obj), n = 2 - k' ∧ k' ≤ 2 ∧ s' = { s with heap := h', toks := tk' } ∧ KtsTurn (frs.filterMap (·.frame)) s.heap g' ∧ Below A base frs g' ∧ Fr g' s.heap.objs.size h' m' ∧
      News g' s.heap.objs.size h' [(h2.objs.size, o'), (h1.objs.size, to)] ∧ (o'.cls = .type "tuple_iterator" ∧ o'.data = .fields #[.ref h1.objs.size, .int k' 0]) ∧ (to.cls = .type "tuple" ∧ ∃ n, to.data = .seq #[.bool true, .bool false] n) ∧
      m' "deed" = some (.ref d.at) ∧ m' "start" = some (.int x t) ∧ m' "others" = some (.ref l) ∧ m' "due" = some due) ?_ 2
    ⟨0, _, _, _, s.heap, _, _, rfl, by decide, rfl, .refl, B, F3, N3, ⟨rfl, rfl⟩, ⟨rfl, _, rfl⟩, rfl, rfl, rfl, rfl⟩
  rintro n _ ⟨k', h', tk', m', g', o', to, rfl, hk', rfl, T', B', F', N', hI', hT', m1, m2, m3, m4⟩
  have nI := N' _ (List.Mem.head _)
  have nT := N' _ (List.Mem.tail _ (List.Mem.head _))
  have hit : h'.IsTupleIter h2.objs.size h1.objs.size k' := ⟨o', nI.1, hI'.1, hI'.2⟩
  have htu : h'.IsTuple h1.objs.size #[.bool true, .bool false] := ⟨to, nT.1, hT'⟩
  rcases Nat.lt_or_ge k' 2 with hlt | hge
  · obtain ⟨ap, hap⟩ : ∃ ap : Bool, (#[.bool true, .bool false] : Array Value)[k']? = some (.bool ap) := by
      rcases (show k' = 0 ∨ k' = 1 by omega) with rfl | rfl
      · exact ⟨true, rfl⟩
      · exact ⟨false, rfl⟩
    refine wpAny_pyNext_tuple_item hit htu hap fun h3 hit3 hs3 => ?_
    obtain ⟨o3, ho3, hc3, hd3⟩ := hit3
    have hne : h2.objs.size ≠ h1.objs.size := fun q => by
      have := nI.1
      rw [q, nT.1] at this
      have e : to = o' := Option.some.inj this
      rw [e, hI'.1] at hT'
      exact absurd hT'.1 (by decide)
    have F4 := F'.change hs3 nI.2.1 nI.2.2
    have N4 : News g' s.heap.objs.size h3 [(h2.objs.size, o3), (h1.objs.size, to)] := fun q hq => by
      rcases List.mem_cons.mp hq with rfl | hq
      · exact ⟨ho3, nI.2⟩
      · rw [List.mem_singleton.mp hq]
        exact ⟨(hs3.2 _ hne.symm).trans nT.1, nT.2⟩
    refine wpAny_assign_Name (stN F4 N4 fun h5 F5 N5 => ?_)
    refine wpAny_passesOwn PassesOwn.leaving ?_
    have X5 : (hd.heap_39 w.params).In g' := XB.keeps B'.stays
    have TR5 := topRead_of (TB.keeps B'.stays)
    obtain ⟨ro, rfd, hro, hrfd⟩ := told_fn (X5.keeps F5.keep)
    refine wpAny_execs_cons (wpAny_Assign_Name (Call_Name rfl (name_K F5 X5 TR5 (by k_is) ?_)))
    refine callWith_function (o := ro) (fd := rfd) (evalArgs_plain (spliced_cons (ld F5 ((if_neg (by decide)).trans m1) (spliced_cons (ld F5 ((if_neg (by decide)).trans m2) (spliced_cons (ld F5 ((if_neg (by decide)).trans m3) (spliced_cons (ld F5 (if_pos rfl) (spliced_nil ⟨⟨hro, hrfd⟩, ?_⟩))))))))))
    have hl5 : h5.IsList l vs.toArray := hl.at fun o e => F5.keep l o (T'.other l o e hlf)
    refine told_call d ap G (pushX B' F5 rfl rfl) R.deeper hl5 hi hn hf fun v6 h6 tk6 a6 t6 => ?_
    obtain ⟨g6, T6, F6, B6, N6⟩ := turned B' F5 a6
    have N6' := N6 _ N5
    refine stN F6 N6' fun h7 F7 N7 => ?_
    have X7 : (hd.heap_39 w.params).In g6 := XB.keeps B6.stays
    have TR7 := topRead_of (TB.keeps B6.stays)
    refine wpAny_execs_cons (wpAny_If (isTrue_or (wpAny_isTrue_Compare1 (ld F7 (if_pos rfl) (ld F7 ((if_neg (by decide)).trans ((if_neg (by decide)).trans m4)) (told_same t6 hdue (wpAny_truthy_bool ?_)))))))
    refine isTrue_or (wpAny_isTrue_Compare1 ?_)
    refine Call_Name rfl (name_B F7 X7 TR7 (by k_is) (by boot_by_name) (by decide) (Calls.callWith_builtin rfl (evalArgs_plain (spliced_cons (ld F7 (if_pos rfl) (spliced_cons (name_B F7 X7 TR7 (by k_is) (by boot_by_name) (by decide) (spliced_nil (told_kind t6 fun tk8 => ?_)))))))))
    refine Call_Name rfl (name_B F7 X7 TR7 (by k_is) (by boot_by_name) (by decide) (Calls.callWith_builtin rfl (evalArgs_plain (spliced_cons (ld F7 ((if_neg (by decide)).trans ((if_neg (by decide)).trans m4)) (spliced_cons (name_B F7 X7 TR7 (by k_is) (by boot_by_name) (by decide) (spliced_nil (told_kind hdue fun tk9 => ?_)))))))))
    refine ne_bool (wpAny_truthy_bool ?_)
    rw [show (isB (fold d (Res.i x) ns) != isB (fold d (Res.i x) ns)) = false by simp]
    refine isTrue_or_nil (wpAny_execs_nil (wpAny_execs_nil ?_))
    exact ⟨2 - (k' + 1), by omega, k' + 1, h7, _, _, g6, o3, to, rfl, by omega, rfl, T'.trans T6, B6, F7, N7, ⟨hc3, hd3⟩, hT',
      (if_neg (by decide)).trans ((if_neg (by decide)).trans m1), (if_neg (by decide)).trans ((if_neg (by decide)).trans m2), (if_neg (by decide)).trans ((if_neg (by decide)).trans m3), (if_neg (by decide)).trans ((if_neg (by decide)).trans m4)⟩
  · obtain rfl : k' = 2 := by omega
    refine wpAny_pyNext_tuple_end (by exact R.hh) hit htu rfl fun h3 hs3 => ?_
    have F4 := Fr.ext F' hs3 nI.2.1 nI.2.2
    exact wpAny_execs_nil (wpAny_execs_cons (wpAny_Return_some (Constant_bool (ret _ _ (.of_turn T' F4)))))
end Mine
end

/- A7 -/
section
open PySem PySem.W PySem.Spec PySem.Calls PyProof.Rows
set_option Elab.async false
set_option maxRecDepth 100000
namespace Mine

def prod (ns : List Int) : Int := ns.foldl (· * ·) 1
def rprod (ns : List Int) : Int := ns.foldl (fun a n => a * n.fmod 3) 1
def msum (ns : List Int) : Int := ns.foldl (fun a n => a + (n - 1)) 0

theorem take_succ_fold {α : Type} (f : α → Int → α) (a : α) {ns : List Int} {i : Nat} {n : Int} (h : ns[i]? = some n) : (ns.take (i + 1)).foldl f a = f ((ns.take i).foldl f a) n := by
  rw [List.take_add_one, h]; simp

set_option maxHeartbeats 4000000 in
theorem sums_for {w : World} {prog : Program} {g : Heap} {A : Around} {s : Shared} {Q : Flow → Shared → Prop} {E : Value → Shared → Prop}
    {name : Str} {scope : Scope} {L f l : Addr} {cd : Value} {m : Str → Option Value} {vs : List Value} {ns : List Int} {t1 t2 t3 : Tok} {q1 q2 q3 q4 q5 q6 q7 q8 q9 q10 q11 q12 q13 q14 q15 : Pos}
    (hh : A.handled = none) (hl : g.IsList l vs.toArray) (hi : IntsAre vs ns) (hb : ∀ n ∈ ns, 0 ≤ n ∧ n ≤ 6)
    (F : Fr g L s.heap m) (N : News g L s.heap []) (mp : m "pieces" = some (.ref l)) (m1 : m "whole" = some (.int 1 t1)) (m2 : m "raised" = some (.int 1 t2)) (m3 : m "moved" = some (.int 0 t3))
    (done : ∀ (u : Str → Option Value) t1 t2 t3 h' tk', Fr g L h' (fun (z : Str) => if z = "piece" then u z else if z = "whole" then some (.int (prod ns) t1) else if z = "raised" then some (.int (rprod ns) t2) else if z = "moved" then some (.int (msum ns) t3) else m z) →
      News g L h' [] → Q .next { s with heap := h', toks := tk' })
    (hE : PassesOwn (model prog w) A (envOf name scope L f cd) E)
    (hk : scope.kind = .function) (k1 : (envOf name scope L f cd).kindOf "pieces" = some .local) (k2 : (envOf name scope L f cd).kindOf "piece" = some .local)
    (k3 : (envOf name scope L f cd).kindOf "whole" = some .local) (k4 : (envOf name scope L f cd).kindOf "raised" = some .local) (k5 : (envOf name scope L f cd).kindOf "moved" = some .local) :
    wpAny (model prog w) A
      (exec (.For (.Name "piece" q1) (.Name "pieces" q2) [
        .AugAssign (.Name "whole" q3) .Mult (.Name "piece" q4) q5,
        .AugAssign (.Name "raised" q6) .Mult (.BinOp (.Name "piece" q7) .Mod (.Constant (.int 3) 0 q8) q9) q10,
        .AugAssign (.Name "moved" q11) .Add (.BinOp (.Name "piece" q12) .Sub (.Constant (.int 1) 0 q13) q14) q15] [] q5) (envOf name scope L f cd)) Q E s := by
  refine For_invVF F k2 (by show (scope.kind == .class || (scope.kind == .module && L != mainGlobals)) = false; rw [hk]; rfl) (ld F mp ?_ hk k1) (fun _ => rfl) hE
  refine iter_inv (env := envOf name scope L f cd) (fun i m' => (∃ t, m' "whole" = some (.int (prod (ns.take i)) t)) ∧ (∃ t, m' "raised" = some (.int (rprod (ns.take i)) t)) ∧ (∃ t, m' "moved" = some (.int (msum (ns.take i)) t)) ∧
      ∀ z : Str, z ≠ "piece" → z ≠ "whole" → z ≠ "raised" → z ≠ "moved" → m' z = m z)
    hh hl hi F N ⟨⟨t1, m1⟩, ⟨t2, m2⟩, ⟨t3, m3⟩, fun z _ _ _ _ => rfl⟩ ?_ ?_
  · rintro i n t m₁ h tk own hn ⟨⟨u1, w1⟩, ⟨u2, w2⟩, ⟨u3, w3⟩, hm⟩ F₁ N₁
    have hbn := hb n (List.mem_of_getElem? hn)
    refine wpAny_execs_cons (wpAny_AugAssign_Name (ldn F₁ ((if_neg (by decide)).trans w1) (ld F₁ (if_pos rfl) (imul_int (hm := .of_right ?hz) (stN F₁ N₁ (fun h2 F2 N2 => ?_) hk k3)) hk k2) hk k3))
    case hz => exact intBits_le_64 (by omega) (by omega)
    refine wpAny_execs_cons (wpAny_AugAssign_Name (ldn F2 (v := .int (rprod (ns.take i)) u2) ((if_neg (by decide)).trans ((if_neg (by decide)).trans w2))
      (wpAny_BinOp (ld F2 (v := .int n t) ((if_neg (by decide)).trans (if_pos rfl)) (wpAny_Constant_int (mod_int (by decide) (imul_int (hm := .of_right ?hz2) (stN F2 N2 (fun h3 F3 N3 => ?_) hk k4)))) hk k2)) hk k4))
    case hz2 =>
      have := fdiv_fmod_facts n 3
      exact intBits_le_64 (by omega) (by omega)
    refine wpAny_execs_cons (wpAny_AugAssign_Name (ldn F3 (v := .int (msum (ns.take i)) u3) ((if_neg (by decide)).trans ((if_neg (by decide)).trans ((if_neg (by decide)).trans w3)))
      (wpAny_BinOp (ld F3 (v := .int n t) ((if_neg (by decide)).trans ((if_neg (by decide)).trans (if_pos rfl))) (wpAny_Constant_int (sub_int (iadd_int (stN F3 N3 (fun h4 F4 N4 => ?_) hk k5)))) hk k2)) hk k5))
    have e1 : prod (ns.take (i + 1)) = prod (ns.take i) * n := take_succ_fold _ _ hn
    have e2 : rprod (ns.take (i + 1)) = rprod (ns.take i) * n.fmod 3 := take_succ_fold _ _ hn
    have e3 : msum (ns.take (i + 1)) = msum (ns.take i) + (n - 1) := take_succ_fold _ _ hn
    rw [e1, e2, e3]
    refine wpAny_execs_nil (InvEnd.intro F4 N4 (fun _ hp => hp) ⟨⟨_, (if_neg (by decide)).trans ((if_neg (by decide)).trans (if_pos rfl))⟩, ⟨_, (if_neg (by decide)).trans (if_pos rfl)⟩, ⟨_, if_pos rfl⟩, fun z z0 z1 z2 z3 => ?_⟩)
    exact (if_neg z3).trans ((if_neg z2).trans ((if_neg z1).trans ((if_neg z0).trans (hm z z0 z1 z2 z3))))
  · rintro m₁ h tk ⟨⟨u1, w1⟩, ⟨u2, w2⟩, ⟨u3, w3⟩, hm⟩ F₁ N₁
    rw [List.take_length] at w1 w2 w3
    refine done m₁ u1 u2 u3 h tk ?_ N₁
    have e : m₁ = fun (z : Str) => if z = "piece" then m₁ z else if z = "whole" then some (.int (prod ns) u1) else if z = "raised" then some (.int (rprod ns) u2) else if z = "moved" then some (.int (msum ns) u3) else m z := by
      funext z
      by_cases z0 : z = "piece"
      · rw [if_pos z0]
      · rw [if_neg z0]
        by_cases z1 : z = "whole"
        · rw [if_pos z1, z1]; exact w1
        · rw [if_neg z1]
          by_cases z2 : z = "raised"
          · rw [if_pos z2, z2]; exact w2
          · rw [if_neg z2]
            by_cases z3 : z = "moved"
            · rw [if_pos z3, z3]; exact w3
            · rw [if_neg z3]; exact hm z z0 z1 z2 z3
    exact e ▸ F₁
end Mine
end

/- A8 -/
section
open PySem PySem.W PySem.Spec PySem.Calls PyProof.Rows
set_option Elab.async false
set_option maxRecDepth 100000
namespace Mine

/-- an object that is a list of these -/
def ListObj (o : Obj) (vs : List Value) : Prop := o.cls = .type "list" ∧ ∃ n, o.data = .seq vs.toArray n
def TupObj (o : Obj) (vs : List Value) : Prop := o.cls = .type "tuple" ∧ ∃ n, o.data = .seq vs.toArray n

theorem ListObj.is {g h : Heap} {L D : Addr} {o : Obj} {vs : List Value} {news : List (Addr × Obj)} (x : ListObj o vs) (N : News g L h news) (hm : (D, o) ∈ news) : h.IsList D vs.toArray := ⟨o, (N _ hm).1, x.1, x.2⟩

section
variable {prog : Program} {w : World} {A : Around} {E : Value → Shared → Prop} {s : Shared} {g : Heap} {L : Addr} {m : Str → Option Value} {news : List (Addr × Obj)} {name : Str} {fscope scope : Scope} {a l : Addr} {cd : Value} {elt : Expr} {x y z : Str} {px py pz pos spos : Pos}
  {vs : List Value} {ns : List Int} {f : Int → Int}

theorem keeps_toks {s : Shared} {tk : Nat} : Keeps s { s with toks := tk } := ⟨s.heap, tk, rfl, fun _ _ e => e⟩

theorem comp_ints {Q : Value → Shared → Prop} (hh : A.handled = none) (F : Fr g L s.heap m) (N : News g L s.heap news) (my : m y = some (.ref l)) (hl : s.heap.IsList l vs.toArray) (hi : IntsAre vs ns) (hn : ns.length ≤ 1000)
    (he : ∀ C n t s₂ m₂ E', n ∈ ns → s₂.heap.Ns C m₂ → m₂ x = some (.int n t) → wpAny (model prog w) A (eval elt (compEnv scope C (envOf name fscope L a cd))) (fun r s₃ => (∃ u, r = .int (f n) u) ∧ Keeps s₂ s₃) E' s₂)
    (k : ∀ D o ys h' tk, Fr g L h' m → News g L h' ((D, o) :: news) → ListObj o ys → IntsAre ys (ns.map f) → Q (.ref D) { s with heap := h', toks := tk })
    (hk : fscope.kind = .function) (ky : (envOf name fscope L a cd).kindOf y = some .local) (hyd : (y == ("__debug__" : Str)) = false)
    (hfree : ∀ y ∈ scope.names, y.2 ≠ .free) (hcell : ∀ y ∈ scope.names, y.2 ≠ .cell) (hkind : scope.kind = .function)
    (hnames : ∀ y ∈ scope.names, y.2 = .local → scope.names.lookup y.1 = some .local) (hx : scope.names.lookup x = some .local) :
    wpAny (model prog w) A (eval (.ListComp elt [⟨.Name x px, .Name y py, [], 0⟩] scope pos) (envOf name fscope L a cd)) Q E s := by
  refine ListComp_rowsP hfree hcell hkind hnames hx (ld F my ?_ hk ky hyd) (fun _ => rfl)
  refine srcC_listDW (K := .int) (as := ns) (pz := fun _ => true) (d := fun n => .int (f n)) hh hl hi.areOf F N (fun C b v s₂ m₂ E' _ _ _ _ _ => wpAny_pure ⟨rfl, keeps_toks⟩) (fun C b v s₂ m₂ E' hb hkb _ hns hm _ => ?_) (fun D ys h' tk F' N' hD hlD hpl hc => ?_) (by rw [sizeLine_eq]; omega)
  · obtain ⟨t, rfl⟩ := hkb
    refine wpAny_mono (he C b t s₂ m₂ E' hb hns hm) (fun r s₃ h₃ => ?_) fun _ _ e => e
    obtain ⟨⟨u, rfl⟩, kp⟩ := h₃
    exact ⟨.int _ _, kp⟩
  · obtain ⟨o, ho, hoc, n, hod⟩ := hlD
    rw [List.filter_eq_self.mpr (fun _ _ => rfl)] at hc
    exact k D o ys h' tk F' (News.more F' N' ho (fun es n q => by rw [hod] at q; cases q) hD) ⟨hoc, n, hod⟩ hc.intsOf

theorem comp_intsA {Q : Flow → Shared → Prop} (hh : A.handled = none) (F : Fr g L s.heap m) (N : News g L s.heap news) (my : m y = some (.ref l)) (hl : s.heap.IsList l vs.toArray) (hi : IntsAre vs ns) (hn : ns.length ≤ 1000)
    (he : ∀ C n t s₂ m₂ E', n ∈ ns → s₂.heap.Ns C m₂ → m₂ x = some (.int n t) → wpAny (model prog w) A (eval elt (compEnv scope C (envOf name fscope L a cd))) (fun r s₃ => (∃ u, r = .int (f n) u) ∧ Keeps s₂ s₃) E' s₂)
    (k : ∀ D o ys h' tk, Fr g L h' (fun q => if q = z then some (.ref D) else m q) → News g L h' ((D, o) :: news) → ListObj o ys → IntsAre ys (ns.map f) → Q .next { s with heap := h', toks := tk })
    (hsw : swapsWith (.ListComp elt [⟨.Name x px, .Name y py, [], 0⟩] scope pos) (some (.Name z pz)) spos.line (envOf name fscope L a cd) = pure true)
    (hk : fscope.kind = .function) (ky : (envOf name fscope L a cd).kindOf y = some .local) (hyd : (y == ("__debug__" : Str)) = false) (kz : (envOf name fscope L a cd).kindOf z = some .local)
    (hfree : ∀ y ∈ scope.names, y.2 ≠ .free) (hcell : ∀ y ∈ scope.names, y.2 ≠ .cell) (hkind : scope.kind = .function)
    (hnames : ∀ y ∈ scope.names, y.2 = .local → scope.names.lookup y.1 = some .local) (hx : scope.names.lookup x = some .local) :
    wpAny (model prog w) A (exec (.Assign [.Name z pz] (.ListComp elt [⟨.Name x px, .Name y py, [], 0⟩] scope pos) spos) (envOf name fscope L a cd)) Q E s := by
  refine Assign_ListComp_rowsP hsw hfree hcell hkind hnames hx kz (by show (fscope.kind == .class || (fscope.kind == .module && L != mainGlobals)) = false; rw [hk]; rfl) (ld F my ?_ hk ky hyd) (fun _ => rfl)
  refine srcA_listDW (K := .int) (as := ns) (pz := fun _ => true) (d := fun n => .int (f n)) hh hl hi.areOf F N (fun C b v s₂ m₂ E' _ _ _ _ _ => wpAny_pure ⟨rfl, keeps_toks⟩) (fun C b v s₂ m₂ E' hb hkb _ hns hm _ => ?_) (fun D ys h' tk F' N' hD hlD hpl hc => ?_) (by rw [sizeLine_eq]; omega)
  · obtain ⟨t, rfl⟩ := hkb
    refine wpAny_mono (he C b t s₂ m₂ E' hb hns hm) (fun r s₃ h₃ => ?_) fun _ _ e => e
    obtain ⟨⟨u, rfl⟩, kp⟩ := h₃
    exact ⟨.int _ _, kp⟩
  · obtain ⟨o, ho, hoc, n, hod⟩ := hlD
    rw [List.filter_eq_self.mpr (fun _ _ => rfl)] at hc
    exact k D o ys h' tk F' (News.more F' N' ho (fun es n q => by rw [hod] at q; cases q) hD) ⟨hoc, n, hod⟩ hc.intsOf
end

section
variable {prog : Program} {w : World} {A : Around} {E : Value → Shared → Prop} {s : Shared} {l : Addr} {vs : List Value} {ns : List Int} {Q : Value → Shared → Prop}
theorem sum_ints (hh : A.handled = none) (hl : s.heap.IsList l vs.toArray) (hi : IntsAre vs ns) (h : ∀ h' tk t', s.heap.StaysIn h' → Q (.int ns.sum t') { s with heap := h', toks := tk }) :
    wpAny (model prog w) A (call (.builtin "sum") [.ref l]) Q E s := by
  have ha := hi.allInts
  have hnum := hi.numsOf
  obtain ⟨xs, e⟩ := ha.items
  rw [e] at hl
  refine sum_intListG hh hl fun h' tk t' hk => ?_
  have e2 : (numsOf vs).sum = ns.sum := by rw [hnum]
  have e3 : vs = (intItems xs).toList := by rw [← e]
  rw [e3, nums_intItems] at e2
  have := h h' tk t' hk
  rw [preSum_eq, List.take_of_length_le (by simp), e2]
  exact this
end

/-- a tuple of the law's: a deed, an int, a list of ints and what is due -/
def AskIn (news : List (Addr × Obj)) (v : Value) : Prop :=
  ∃ (b : Addr) (o : Obj) (d : Deed) (x : Int) (t : Tok) (l : Addr) (lo : Obj) (due : Value) (vs : List Value) (ns : List Int), v = .ref b ∧ (b, o) ∈ news ∧ TupObj o [.ref d.at, .int x t, .ref l, due] ∧ (l, lo) ∈ news ∧ ListObj lo vs ∧ IntsAre vs ns ∧ ns.length ≤ 1000 ∧
    FitAll d (.i x) ns ∧ Told due (fold d (.i x) ns)
theorem AskIn.mono {news news' : List (Addr × Obj)} {v : Value} (x : AskIn news v) (h : ∀ p ∈ news, p ∈ news') : AskIn news' v := by
  obtain ⟨b, o, d, y, t, l, lo, due, vs, ns, e, h1, h2, h3, r⟩ := x
  exact ⟨b, o, d, y, t, l, lo, due, vs, ns, e, h _ h1, h2, h _ h3, r⟩
end Mine
end

/- P1 -/
section
open PySem PySem.W PySem.Spec PySem.Calls PyProof.Rows
set_option Elab.async false
namespace Mine

theorem foldl_mul (f : Int → Int) (ns : List Int) : ∀ a : Int, ns.foldl (fun a n => a * f n) a = a * ns.foldl (fun a n => a * f n) 1 := by
  induction ns with
  | nil => intro a; simp
  | cons n r ih => intro a; rw [List.foldl_cons, List.foldl_cons, ih (a * f n), ih (1 * f n), Int.one_mul, Int.mul_assoc]
theorem prod_cons (n : Int) (r : List Int) : prod (n :: r) = n * prod r := by
  have := foldl_mul (fun n => n) r (1 * n)
  rw [Int.one_mul] at this
  show r.foldl (· * ·) (1 * n) = _
  rw [Int.one_mul]; exact this
theorem rprod_cons (n : Int) (r : List Int) : rprod (n :: r) = n.fmod 3 * rprod r := by
  have := foldl_mul (fun n => n.fmod 3) r (1 * n.fmod 3)
  rw [Int.one_mul] at this
  show r.foldl (fun a n => a * n.fmod 3) (1 * n.fmod 3) = _
  rw [Int.one_mul]; exact this
theorem foldl_plus (ns : List Int) : ∀ a : Int, ns.foldl (fun a n => a + (n - 1)) a = a + ns.foldl (fun a n => a + (n - 1)) 0 := by
  induction ns with
  | nil => intro a; simp
  | cons n r ih => intro a; rw [List.foldl_cons, List.foldl_cons, ih (a + (n - 1)), ih (0 + (n - 1))]; omega
theorem msum_cons (n : Int) (r : List Int) : msum (n :: r) = (n - 1) + msum r := by
  show r.foldl (fun a n => a + (n - 1)) (0 + (n - 1)) = _
  rw [foldl_plus]; show 0 + (n - 1) + msum r = _; omega

theorem mul_bounds {a b A B : Int} (h1 : 0 ≤ a) (h2 : a ≤ A) (h3 : 0 ≤ b) (h4 : b ≤ B) : 0 ≤ a * b ∧ a * b ≤ A * B :=
  ⟨Int.mul_nonneg h1 h3, Int.mul_le_mul h2 h4 h3 (Int.le_trans h1 h2)⟩

theorem prod_facts' : ∀ (ns : List Int), (∀ n ∈ ns, 0 ≤ n ∧ n ≤ 6) → 0 ≤ prod ns ∧ prod ns ≤ 6 ^ ns.length ∧ 0 ≤ rprod ns ∧ rprod ns ≤ 2 ^ ns.length ∧ msum ns ≤ 5 * ns.length ∧ (prod ns ≠ 0 → 0 ≤ msum ns)
  | [], _ => by decide
  | n :: r, hb => by
    obtain ⟨h1, h2, h3, h4, h5, h6⟩ := prod_facts' r fun m hm => hb m (List.mem_cons_of_mem _ hm)
    have hn := hb n (List.mem_cons_self ..)
    have hf := (fdiv_fmod_facts n 3).2.2.1 (by decide)
    have a1 := mul_bounds hn.1 hn.2 h1 h2
    have a2 := mul_bounds hf.1 (show n.fmod 3 ≤ 2 by omega) h3 h4
    rw [prod_cons, rprod_cons, msum_cons, List.length_cons, Int.pow_succ, Int.pow_succ]
    refine ⟨a1.1, by rw [Int.mul_comm (6 ^ r.length) 6]; exact a1.2, a2.1, by rw [Int.mul_comm (2 ^ r.length) 2]; exact a2.2, by push_cast; omega, fun hne => ?_⟩
    have hn0 : n ≠ 0 := fun q => hne (by rw [q, Int.zero_mul])
    have hp0 : prod r ≠ 0 := fun q => hne (by rw [q, Int.mul_zero])
    have := h6 hp0
    omega

theorem pow_mono_int {a : Nat} (ha : 0 < a) {i j : Nat} (h : i ≤ j) : (a : Int) ^ i ≤ (a : Int) ^ j := by
  have := Nat.pow_le_pow_right ha h
  exact_mod_cast this

theorem fold_i {d : Deed} {V : Res} {e n : Int} {r : List Int} (h : step d V e = .i n) : fold d V (e :: r) = fold d (.i n) r := by
  have := fold_go (d := d) (V := V) (e := e) (r := r) (v := .int n 0) (by rw [h]; exact .i)
  rw [this, h]
theorem fold_b {d : Deed} {V : Res} {e : Int} {x : Bool} {r : List Int} (h : step d V e = .b x) : fold d V (e :: r) = fold d (.b x) r := by
  have := fold_go (d := d) (V := V) (e := e) (r := r) (v := .bool x) (by rw [h]; exact .b)
  rw [this, h]
theorem fit_i {d : Deed} {V : Res} {e n : Int} {r : List Int} (h : step d V e = .i n) (h1 : Fit d V e) (h2 : FitAll d (.i n) r) : FitAll d V (e :: r) := ⟨h1, by rw [h]; exact h2⟩
theorem fit_b {d : Deed} {V : Res} {e : Int} {x : Bool} {r : List Int} (h : step d V e = .b x) (h1 : Fit d V e) (h2 : FitAll d (.b x) r) : FitAll d V (e :: r) := ⟨h1, by rw [h]; exact h2⟩
theorem fit_zd {d : Deed} {V : Res} {e : Int} {r : List Int} (h : step d V e = .zd) (h1 : Fit d V e) : FitAll d V (e :: r) := ⟨h1, by rw [h]; trivial⟩
theorem fit_ve {d : Deed} {V : Res} {e : Int} {r : List Int} (h : step d V e = .ve) (h1 : Fit d V e) : FitAll d V (e :: r) := ⟨h1, by rw [h]; trivial⟩

theorem prod_facts {ns : List Int} (hb : ∀ n ∈ ns, 0 ≤ n ∧ n ≤ 6) (hn : ns.length ≤ 4) : 0 ≤ prod ns ∧ prod ns ≤ 1296 ∧ 0 ≤ rprod ns ∧ rprod ns ≤ 16 ∧ msum ns ≤ 20 ∧ (prod ns ≠ 0 → 0 ≤ msum ns) := by
  obtain ⟨h1, h2, h3, h4, h5, h6⟩ := prod_facts' ns hb
  have e1 : (6 : Int) ^ ns.length ≤ 6 ^ 4 := pow_mono_int (a := 6) (by decide) hn
  have e2 : (2 : Int) ^ ns.length ≤ 2 ^ 4 := pow_mono_int (a := 2) (by decide) hn
  refine ⟨h1, by omega, h3, by omega, by omega, h6⟩

theorem law_sub : ∀ (ns : List Int) (x : Int), FitAll .sub (.i x) ns ∧ fold .sub (.i x) ns = .i (x - ns.sum)
  | [], x => ⟨trivial, by show Res.i x = _; simp⟩
  | n :: r, x => by
    obtain ⟨h1, h2⟩ := law_sub r (x - n)
    refine ⟨⟨trivial, h1⟩, ?_⟩
    show fold .sub (.i (x - n)) r = _
    rw [h2, List.sum_cons]
    congr 1; omega

theorem fdiv_fdiv {x a b : Int} (ha : 0 ≤ a) (hb : 0 ≤ b) : (x.fdiv a).fdiv b = x.fdiv (a * b) := by
  rw [Int.fdiv_eq_ediv_of_nonneg _ ha, Int.fdiv_eq_ediv_of_nonneg _ hb, Int.fdiv_eq_ediv_of_nonneg _ (Int.mul_nonneg ha hb)]
  exact Int.ediv_ediv_of_nonneg ha

theorem step_div {x e : Int} (h : e ≠ 0) : step .floordiv (.i x) e = .i (x.fdiv e) := if_neg h
theorem step_div0 {x e : Int} (h : e = 0) : step .floordiv (.i x) e = .zd := if_pos h

theorem law_div : ∀ (ns : List Int) (x : Int), (∀ n ∈ ns, 0 ≤ n ∧ n ≤ 6) → FitAll .floordiv (.i x) ns ∧ (prod ns = 0 → fold .floordiv (.i x) ns = .zd) ∧ (prod ns ≠ 0 → fold .floordiv (.i x) ns = .i (x.fdiv (prod ns)))
  | [], x, _ => ⟨trivial, fun h => absurd h (by decide), fun _ => by show Res.i x = .i (x.fdiv 1); rw [Int.fdiv_one]⟩
  | n :: r, x, hb => by
    have hn := hb n (List.mem_cons_self ..)
    obtain ⟨h1, h2, h3⟩ := law_div r (x.fdiv n) fun m hm => hb m (List.mem_cons_of_mem _ hm)
    have hp := (prod_facts' r fun m hm => hb m (List.mem_cons_of_mem _ hm)).1
    rw [prod_cons]
    by_cases h0 : n = 0
    · exact ⟨fit_zd (step_div0 h0) (by show n.natAbs < _; omega), fun _ => fold_zd (step_div0 h0), fun h => absurd (by rw [h0, Int.zero_mul]) h⟩
    · refine ⟨fit_i (step_div h0) (by show n.natAbs < _; omega) h1, fun h => ?_, fun h => ?_⟩
      · rw [fold_i (step_div h0)]
        refine h2 ?_
        rcases Int.mul_eq_zero.mp h with q | q
        · exact absurd q h0
        · exact q
      · rw [fold_i (step_div h0), h3 (fun q => h (by rw [q, Int.mul_zero])), fdiv_fdiv hn.1 hp]

theorem step_shl {x e : Int} (h : 0 ≤ e) : step .lshift (.i x) e = .i (x * 2 ^ e.toNat) := if_neg (by omega)
theorem step_shl0 {x e : Int} (h : e < 0) : step .lshift (.i x) e = .ve := if_pos h
theorem step_shr {x e : Int} (h : 0 ≤ e) : step .rshift (.i x) e = .i (x.fdiv (2 ^ e.toNat)) := if_neg (by omega)
theorem step_shr0 {x e : Int} (h : e < 0) : step .rshift (.i x) e = .ve := if_pos h

theorem law_shl' : ∀ (ns : List Int) (x : Int), (∀ n ∈ ns, 0 ≤ n ∧ n ≤ 6) → x.natAbs * 2 ^ (5 * ns.length) < 2 ^ 64 → FitAll .lshift (.i x) (ns.map fun n => n - 1) ∧ (prod ns = 0 → fold .lshift (.i x) (ns.map fun n => n - 1) = .ve) ∧ (prod ns ≠ 0 → fold .lshift (.i x) (ns.map fun n => n - 1) = .i (x * 2 ^ (msum ns).toNat))
  | [], x, _, _ => ⟨trivial, fun h => absurd h (by decide), fun _ => by show Res.i x = .i (x * 2 ^ 0); simp⟩
  | n :: r, x, hb, hz => by
    have hn := hb n (List.mem_cons_self ..)
    have hbr : ∀ n ∈ r, 0 ≤ n ∧ n ≤ 6 := fun m hm => hb m (List.mem_cons_of_mem _ hm)
    have hx64 : x.natAbs < 2 ^ 64 := Nat.lt_of_le_of_lt (Nat.le_mul_of_pos_right _ (Nat.pow_pos (by decide))) hz
    have hfit : Fit .lshift (.i x) (n - 1) := ⟨hx64, by omega⟩
    rw [prod_cons, msum_cons, List.map_cons]
    by_cases h0 : n = 0
    · exact ⟨fit_ve (step_shl0 (by omega)) hfit, fun _ => fold_ve (step_shl0 (by omega)), fun h => absurd (by rw [h0, Int.zero_mul]) h⟩
    · have hz' : (x * 2 ^ (n - 1).toNat).natAbs * 2 ^ (5 * r.length) < 2 ^ 64 := by
        refine Nat.lt_of_le_of_lt ?_ hz
        rw [Int.natAbs_mul, Int.natAbs_pow, List.length_cons, Nat.mul_succ, Nat.pow_add, Nat.mul_assoc]
        refine Nat.mul_le_mul_left _ ?_
        rw [Nat.mul_comm (2 ^ (5 * r.length))]
        refine Nat.mul_le_mul_right _ ?_
        exact Nat.pow_le_pow_right (by decide) (by omega)
      obtain ⟨h1, h2, h3⟩ := law_shl' r (x * 2 ^ (n - 1).toNat) hbr hz'
      have hs := step_shl (x := x) (show 0 ≤ n - 1 by omega)
      refine ⟨fit_i hs hfit h1, fun h => ?_, fun h => ?_⟩
      · rw [fold_i hs]
        refine h2 ?_
        rcases Int.mul_eq_zero.mp h with q | q
        · exact absurd q h0
        · exact q
      · have hp : prod r ≠ 0 := fun q => h (by rw [q, Int.mul_zero])
        have hm := (prod_facts' r hbr).2.2.2.2.2 hp
        rw [fold_i hs, h3 hp, Int.mul_assoc, ← Int.pow_add, ← Int.toNat_add (by omega) hm]
theorem law_shl {ns : List Int} {x : Int} (hx : -1000001 ≤ x ∧ x ≤ 1000001) (hb : ∀ n ∈ ns, 0 ≤ n ∧ n ≤ 6) (hn : ns.length ≤ 4) : FitAll .lshift (.i x) (ns.map fun n => n - 1) ∧ (prod ns = 0 → fold .lshift (.i x) (ns.map fun n => n - 1) = .ve) ∧ (prod ns ≠ 0 → fold .lshift (.i x) (ns.map fun n => n - 1) = .i (x * 2 ^ (msum ns).toNat)) := by
  refine law_shl' ns x hb ?_
  have h1 : 2 ^ (5 * ns.length) ≤ 2 ^ 20 := Nat.pow_le_pow_right (by decide) (by omega)
  have h2 : x.natAbs * 2 ^ (5 * ns.length) ≤ 1000001 * 2 ^ 20 := Nat.mul_le_mul (by omega) h1
  omega

theorem law_shr : ∀ (ns : List Int) (x : Int), (∀ n ∈ ns, 0 ≤ n ∧ n ≤ 6) → FitAll .rshift (.i x) (ns.map fun n => n - 1) ∧ (prod ns = 0 → fold .rshift (.i x) (ns.map fun n => n - 1) = .ve) ∧ (prod ns ≠ 0 → fold .rshift (.i x) (ns.map fun n => n - 1) = .i (x.fdiv (2 ^ (msum ns).toNat)))
  | [], x, _ => ⟨trivial, fun h => absurd h (by decide), fun _ => by show Res.i x = .i (x.fdiv 1); rw [Int.fdiv_one]⟩
  | n :: r, x, hb => by
    have hn := hb n (List.mem_cons_self ..)
    have hbr : ∀ n ∈ r, 0 ≤ n ∧ n ≤ 6 := fun m hm => hb m (List.mem_cons_of_mem _ hm)
    have hfit : Fit .rshift (.i x) (n - 1) := trivial
    rw [prod_cons, msum_cons, List.map_cons]
    by_cases h0 : n = 0
    · exact ⟨fit_ve (step_shr0 (by omega)) hfit, fun _ => fold_ve (step_shr0 (by omega)), fun h => absurd (by rw [h0, Int.zero_mul]) h⟩
    · obtain ⟨h1, h2, h3⟩ := law_shr r (x.fdiv (2 ^ (n - 1).toNat)) hbr
      have hs := step_shr (x := x) (show 0 ≤ n - 1 by omega)
      refine ⟨fit_i hs hfit h1, fun h => ?_, fun h => ?_⟩
      · rw [fold_i hs]
        refine h2 ?_
        rcases Int.mul_eq_zero.mp h with q | q
        · exact absurd q h0
        · exact q
      · have hp : prod r ≠ 0 := fun q => h (by rw [q, Int.mul_zero])
        have hm := (prod_facts' r hbr).2.2.2.2.2 hp
        rw [fold_i hs, h3 hp, fdiv_fdiv (Int.le_of_lt (Int.pow_pos (by decide))) (Int.le_of_lt (Int.pow_pos (by decide))), ← Int.pow_add, ← Int.toNat_add (by omega) hm]

theorem law_pow' : ∀ (ns : List Int) (b : Int) (M : Nat), (∀ n ∈ ns, 0 ≤ n ∧ n ≤ 6) → 1 ≤ M → b.natAbs ≤ M → M ^ (2 ^ ns.length) < 2 ^ 64 → FitAll .ipow (.i b) (ns.map fun n => n.fmod 3) ∧ fold .ipow (.i b) (ns.map fun n => n.fmod 3) = .i (b ^ (rprod ns).toNat)
  | [], b, M, _, _, _, _ => ⟨trivial, by show Res.i b = .i (b ^ 1); rw [Int.pow_succ, Int.pow_zero, Int.one_mul]⟩
  | n :: r, b, M, hb, hM, hbM, hz => by
    have hn := hb n (List.mem_cons_self ..)
    have hbr : ∀ n ∈ r, 0 ≤ n ∧ n ≤ 6 := fun m hm => hb m (List.mem_cons_of_mem _ hm)
    have hf := (fdiv_fmod_facts n 3).2.2.1 (by decide)
    have hM64 : M < 2 ^ 64 := Nat.lt_of_le_of_lt (by
      have : M ^ 1 ≤ M ^ (2 ^ (n :: r).length) := Nat.pow_le_pow_right hM (Nat.one_le_two_pow)
      simpa using this) hz
    have hfit : Fit .ipow (.i b) (n.fmod 3) := ⟨by omega, by omega, by omega⟩
    have hs : step .ipow (.i b) (n.fmod 3) = .i (b ^ (n.fmod 3).toNat) := rfl
    obtain ⟨h1, h2⟩ := law_pow' r (b ^ (n.fmod 3).toNat) (M ^ 2) hbr (Nat.one_le_pow _ _ hM) (by
      rw [Int.natAbs_pow]
      exact Nat.le_trans (Nat.pow_le_pow_left hbM _) (Nat.pow_le_pow_right hM (by omega))) (by
      rw [← Nat.pow_mul, ← Nat.pow_succ']; exact hz)
    have hr := (prod_facts' r hbr).2.2.1
    rw [rprod_cons, List.map_cons]
    refine ⟨fit_i hs hfit h1, ?_⟩
    rw [fold_i hs, h2, ← Int.pow_mul, Int.toNat_mul hf.1 hr]
theorem law_pow {ns : List Int} {b : Int} (hx : -3 ≤ b ∧ b ≤ 3) (hb : ∀ n ∈ ns, 0 ≤ n ∧ n ≤ 6) (hn : ns.length ≤ 4) : FitAll .ipow (.i b) (ns.map fun n => n.fmod 3) ∧ fold .ipow (.i b) (ns.map fun n => n.fmod 3) = .i (b ^ (rprod ns).toNat) := by
  refine law_pow' ns b 3 hb (by decide) (by omega) ?_
  have h1 : 2 ^ ns.length ≤ 2 ^ 4 := Nat.pow_le_pow_right (by decide) hn
  have h2 : 3 ^ (2 ^ ns.length) ≤ 3 ^ (2 ^ 4) := Nat.pow_le_pow_right (by decide) h1
  exact Nat.lt_of_le_of_lt h2 (by decide)

theorem step_mod {x e : Int} (h : e ≠ 0) : step .mod (.i x) e = .i (x.fmod e) := if_neg h
theorem fmod_pos {x e : Int} (h : 0 < e) : x.fmod e = x % e := Int.fmod_eq_emod_of_nonneg x (Int.le_of_lt h)

/-- the multiples ahead of the modulus -/
theorem law_mod1 {q : Int} (hq : 0 < q) : ∀ (ns : List Int) (x : Int), (∀ n ∈ ns, 0 ≤ n ∧ n ≤ 6) → FitAll .mod (.i x) ((ns.map fun n => q * (n + 1)) ++ [q]) ∧ fold .mod (.i x) ((ns.map fun n => q * (n + 1)) ++ [q]) = .i (x.fmod q)
  | [], x, _ => ⟨fit_i (step_mod (by omega)) trivial trivial, by rw [List.map_nil, List.nil_append, fold_i (step_mod (by omega))]; rfl⟩
  | n :: r, x, hb => by
    have hn := hb n (List.mem_cons_self ..)
    have hpos : 0 < q * (n + 1) := Int.mul_pos hq (by omega)
    obtain ⟨h1, h2⟩ := law_mod1 hq r (x.fmod (q * (n + 1))) fun m hm => hb m (List.mem_cons_of_mem _ hm)
    have hs := step_mod (x := x) (show q * (n + 1) ≠ 0 by omega)
    rw [List.map_cons, List.cons_append]
    refine ⟨fit_i hs trivial h1, ?_⟩
    rw [fold_i hs, h2, fmod_pos hpos, fmod_pos hq, fmod_pos hq, Int.emod_emod_of_dvd _ (Int.dvd_mul_right q (n + 1))]
/-- and behind it -/
theorem law_mod2' {q : Int} (hq : 0 < q) : ∀ (ns : List Int) (y : Int), (∀ n ∈ ns, 0 ≤ n ∧ n ≤ 6) → 0 ≤ y → y < q → FitAll .mod (.i y) (ns.map fun n => q * (n + 1)) ∧ fold .mod (.i y) (ns.map fun n => q * (n + 1)) = .i y
  | [], y, _, _, _ => ⟨trivial, rfl⟩
  | n :: r, y, hb, h0, hy => by
    have hn := hb n (List.mem_cons_self ..)
    have hle : q * 1 ≤ q * (n + 1) := Int.mul_le_mul_of_nonneg_left (by omega) (Int.le_of_lt hq)
    have hs : step .mod (.i y) (q * (n + 1)) = .i y := by
      rw [step_mod (by omega), fmod_pos (by omega), Int.emod_eq_of_lt h0 (by omega)]
    obtain ⟨h1, h2⟩ := law_mod2' hq r y (fun m hm => hb m (List.mem_cons_of_mem _ hm)) h0 hy
    rw [List.map_cons]
    exact ⟨fit_i hs trivial h1, by rw [fold_i hs, h2]⟩
theorem law_mod2 {q : Int} (hq : 0 < q) (ns : List Int) (x : Int) (hb : ∀ n ∈ ns, 0 ≤ n ∧ n ≤ 6) : FitAll .mod (.i x) ([q] ++ ns.map fun n => q * (n + 1)) ∧ fold .mod (.i x) ([q] ++ ns.map fun n => q * (n + 1)) = .i (x.fmod q) := by
  have hf := (fdiv_fmod_facts x q).2.2.1 hq
  obtain ⟨h1, h2⟩ := law_mod2' hq ns (x.fmod q) hb hf.1 hf.2
  have hs := step_mod (x := x) (show q ≠ 0 by omega)
  exact ⟨fit_i hs trivial h1, by show fold .mod (.i x) (q :: _) = _; rw [fold_i hs]; exact h2⟩

def act (way : Int) (v : Bool) : Bool := if way = 0 then false else if way = 1 then true else if way = 3 then !v else v
def table : Deed → List Int
  | .lt => [0, 0, 3, 1, 1]
  | .le => [0, 3, 1, 1, 1]
  | .eq => [0, 3, 2, 0, 0]
  | .ne => [1, 2, 3, 1, 1]
  | .ge => [1, 1, 2, 0, 0]
  | .gt => [1, 2, 0, 0, 0]
  | _ => []
def isCmp : Deed → Bool
  | .lt | .le | .eq | .ne | .ge | .gt => true
  | _ => false
def wayAt (ws : List Int) (mk : Int) : Int := ws.getD (mk + 1).toNat 0
def settle (ws : List Int) (outset : Bool) : Bool → List Int → Bool
  | turned, [] => outset != turned
  | turned, mk :: r => if wayAt ws mk < 2 then decide (wayAt ws mk = 1) != turned else settle ws outset (if wayAt ws mk = 3 then !turned else turned) r
def outsetOf (d : Deed) (x h : Int) : Bool := match step d (.i x) h with
  | .b v => v
  | _ => false

theorem settle_eq (ws : List Int) (outset : Bool) : ∀ (rl : List Int) (turned : Bool), (∀ mk ∈ rl, 0 ≤ wayAt ws mk ∧ wayAt ws mk ≤ 3) →
    settle ws outset turned rl = ((rl.foldr (fun mk v => act (wayAt ws mk) v) outset) != turned)
  | [], _, _ => rfl
  | mk :: r, turned, h => by
    have hm := h mk (List.mem_cons_self ..)
    have ih := fun t => settle_eq ws outset r t fun m hm => h m (List.mem_cons_of_mem _ hm)
    rw [settle, List.foldr_cons]
    generalize wayAt ws mk = way at hm
    rcases (show way = 0 ∨ way = 1 ∨ way = 2 ∨ way = 3 by omega) with rfl | rfl | rfl | rfl
    · rfl
    · rfl
    · rw [if_neg (by decide), if_neg (by decide), ih]; rfl
    · rw [if_neg (by decide), if_pos rfl, ih]
      show _ = ((!_) != turned)
      generalize List.foldr (fun mk v => act (wayAt ws mk) v) outset r = z
      cases z <;> cases turned <;> rfl

theorem way_bounds {d : Deed} (hd : isCmp d = true) {mk : Int} (h : -1 ≤ mk ∧ mk ≤ 3) : 0 ≤ wayAt (table d) mk ∧ wayAt (table d) mk ≤ 3 := by
  rcases (show mk = -1 ∨ mk = 0 ∨ mk = 1 ∨ mk = 2 ∨ mk = 3 by omega) with rfl | rfl | rfl | rfl | rfl <;> (cases d <;> first | decide | exact absurd hd (by decide))
theorem step_act {d : Deed} (hd : isCmp d = true) (v : Bool) {mk : Int} (h : -1 ≤ mk ∧ mk ≤ 3) : step d (.b v) mk = .b (act (wayAt (table d) mk) v) := by
  rcases (show mk = -1 ∨ mk = 0 ∨ mk = 1 ∨ mk = 2 ∨ mk = 3 by omega) with rfl | rfl | rfl | rfl | rfl <;> (cases d <;> first | exact absurd hd (by decide) | (cases v <;> rfl))
theorem step_out {d : Deed} (hd : isCmp d = true) (x h : Int) : step d (.i x) h = .b (outsetOf d x h) := by
  cases d <;> first | exact absurd hd (by decide) | rfl
theorem fit_cmp_i {d : Deed} (hd : isCmp d = true) (x e : Int) : Fit d (.i x) e := by
  cases d <;> first | exact absurd hd (by decide) | trivial
theorem fit_cmp_b {d : Deed} (hd : isCmp d = true) (x : Bool) (e : Int) : Fit d (.b x) e := by
  cases d <;> first | exact absurd hd (by decide) | trivial

theorem law_cmp' {d : Deed} (hd : isCmp d = true) : ∀ (tl : List Int) (v : Bool), (∀ mk ∈ tl, -1 ≤ mk ∧ mk ≤ 3) →
    FitAll d (.b v) tl ∧ fold d (.b v) tl = .b (tl.foldl (fun v mk => act (wayAt (table d) mk) v) v)
  | [], _, _ => ⟨trivial, rfl⟩
  | mk :: r, v, h => by
    have hs := step_act hd v (h mk (List.mem_cons_self ..))
    obtain ⟨h1, h2⟩ := law_cmp' hd r (act (wayAt (table d) mk) v) fun m hm => h m (List.mem_cons_of_mem _ hm)
    exact ⟨fit_b hs (fit_cmp_b hd v mk) h1, by rw [fold_b hs, h2]; rfl⟩
theorem law_cmp {d : Deed} (hd : isCmp d = true) (x h : Int) (tl : List Int) (hb : ∀ mk ∈ tl, -1 ≤ mk ∧ mk ≤ 3) :
    FitAll d (.i x) (h :: tl) ∧ fold d (.i x) (h :: tl) = .b (settle (table d) (outsetOf d x h) false tl.reverse) := by
  have hs := step_out hd x h
  obtain ⟨h1, h2⟩ := law_cmp' hd tl (outsetOf d x h) hb
  refine ⟨fit_b hs (fit_cmp_i hd x h) h1, ?_⟩
  rw [fold_b hs, h2, settle_eq _ _ _ _ (fun mk hm => way_bounds hd (hb mk (List.mem_reverse.mp hm))), List.foldr_reverse]
  congr 1
  generalize List.foldl (fun v mk => act (wayAt (table d) mk) v) (outsetOf d x h) tl = z
  cases z <;> rfl
end Mine
end

/- A9 -/
section
open PySem PySem.W PySem.Spec PySem.Calls PyProof.Rows
set_option Elab.async false
set_option maxRecDepth 100000
namespace Mine

theorem fillNow9 (w : World) (base : Heap) : PySem.Challenge.rw_mr0096_01.name = PySem.Challenge.rw_mr0096_01.name ∨ (hd.heap_39 w.params).In base := by
  k_fill
  exact Or.inl rfl


theorem AskIn.mk' {news : List (Addr × Obj)} {b l : Addr} {o lo : Obj} {x : Int} {t : Tok} {due : Value} {vs : List Value} {ns : List Int} (d : Deed) (h1 : (b, o) ∈ news) (h2 : TupObj o [.ref d.at, .int x t, .ref l, due]) (h3 : (l, lo) ∈ news)
    (h4 : ListObj lo vs) (h5 : IntsAre vs ns) (h6 : ns.length ≤ 1000) (h7 : FitAll d (.i x) ns) (h8 : Told due (fold d (.i x) ns)) : AskIn news (.ref b) := ⟨b, o, d, x, t, l, lo, due, vs, ns, rfl, h1, h2, h3, h4, h5, h6, h7, h8⟩
theorem told_i {V : Res} {n : Int} {t : Tok} (h : V = .i n) : Told (.int n t) V := by rw [h]; exact .of .i

section
variable {prog : Program} {w : World} {A : Around} {E : Value → Shared → Prop} {s : Shared} {C : Addr} {env : Env} {scope : Scope} {m : Str → Option Value} {n : Int} {t : Tok} {p1 p2 p3 : Pos} {k : Nat}
theorem elt_sub {c : Int} {x : Str} (hn : s.heap.Ns C m) (hm : m x = some (.int n t)) (hk : scope.kind = .function) (hl : (compEnv scope C env).kindOf x = some .local) (hd : (x == ("__debug__" : Str)) = false) :
    wpAny (model prog w) A (eval (.BinOp (.Name x p1) .Sub (.Constant (.int c) k p2) p3) (compEnv scope C env)) (fun r s₃ => (∃ u, r = .int (n - c) u) ∧ Keeps s s₃) E s :=
  wpAny_BinOp (wpAny_Name (wpAny_loadName_local hk hl hn hm (wpAny_Constant_int (sub_int ⟨⟨_, rfl⟩, keeps_toks⟩))) hd)
theorem elt_mod {c : Int} (hc : c ≠ 0) {x : Str} (hn : s.heap.Ns C m) (hm : m x = some (.int n t)) (hk : scope.kind = .function) (hl : (compEnv scope C env).kindOf x = some .local) (hd : (x == ("__debug__" : Str)) = false) :
    wpAny (model prog w) A (eval (.BinOp (.Name x p1) .Mod (.Constant (.int c) k p2) p3) (compEnv scope C env)) (fun r s₃ => (∃ u, r = .int (n.fmod c) u) ∧ Keeps s s₃) E s :=
  wpAny_BinOp (wpAny_Name (wpAny_loadName_local hk hl hn hm (wpAny_Constant_int (mod_int hc ⟨⟨_, rfl⟩, keeps_toks⟩))) hd)
end

section
variable {prog : Program} {w : World} {A : Around} {E : Value → Shared → Prop} {s : Shared} {g : Heap} {L f : Addr} {m : Str → Option Value} {name : Str} {scope : Scope} {cd : Value} {ns : List Int} {x : Int} {t t1 t3 : Tok} {Q : Value → Shared → Prop}
  {c : String} {p1 p2 p3 p4 p5 p6 p7 p8 p9 p10 : Pos}
theorem due_div (F : Fr g L s.heap m) (hb : ∀ n ∈ ns, 0 ≤ n ∧ n ≤ 6) (hn : ns.length ≤ 4) (mw : m "whole" = some (.int (prod ns) t1)) (ms : m "start" = some (.int x t)) (k : ∀ v tk, Told v (fold .floordiv (.i x) ns) → Q v { s with toks := tk })
    (hk : scope.kind = .function) (k1 : (envOf name scope L f cd).kindOf "whole" = some .local) (k2 : (envOf name scope L f cd).kindOf "start" = some .local) :
    wpAny (model prog w) A (eval (.IfExp (.Compare (.Name "whole" p1) [.Eq] [.Constant (.int 0) 0 p2] p3) (.Constant (.str "by nought") 0 p4) (.BinOp (.Name "start" p5) .FloorDiv (.Name "whole" p6) p7) p8) (envOf name scope L f cd)) Q E s := by
  obtain ⟨_, l1, l2⟩ := law_div ns x hb
  obtain ⟨P1, P2, _⟩ := prod_facts hb hn
  refine wpAny_IfExp (wpAny_isTrue_Compare1 (ld F mw (wpAny_Constant_int (eq_int (wpAny_truthy_bool ?_))) hk k1))
  by_cases hW : prod ns = 0
  · rw [if_pos (by simpa using hW)]
    exact wpAny_Constant_str (k _ _ (Told.zd' (l1 hW)))
  · rw [if_neg (by simpa using hW)]
    exact wpAny_BinOp (ld (s := { s with toks := s.toks + 1 }) F ms (ld (s := { s with toks := s.toks + 1 }) F mw (floordiv_int (hp := .inl (PyProof.noPylong_small (by omega))) hW (k _ _ (told_i (l2 hW)))) hk k1) hk k2)
theorem due_shl (F : Fr g L s.heap m) (hx : -1000001 ≤ x ∧ x ≤ 1000001) (hb : ∀ n ∈ ns, 0 ≤ n ∧ n ≤ 6) (hn : ns.length ≤ 4) (mw : m "whole" = some (.int (prod ns) t1)) (mm : m "moved" = some (.int (msum ns) t3)) (ms : m "start" = some (.int x t))
    (k : ∀ v tk, Told v (fold .lshift (.i x) (ns.map fun n => n - 1)) → Q v { s with toks := tk })
    (hk : scope.kind = .function) (k1 : (envOf name scope L f cd).kindOf "whole" = some .local) (k2 : (envOf name scope L f cd).kindOf "start" = some .local) (k3 : (envOf name scope L f cd).kindOf "moved" = some .local) :
    wpAny (model prog w) A (eval (.IfExp (.Compare (.Name "whole" p1) [.Eq] [.Constant (.int 0) 0 p2] p3) (.Constant (.str "by less") 0 p4) (.BinOp (.Name "start" p5) .Mult (.BinOp (.Constant (.int 2) 0 p9) .Pow (.Name "moved" p6) p10) p7) p8) (envOf name scope L f cd)) Q E s := by
  obtain ⟨_, l1, l2⟩ := law_shl hx hb hn
  obtain ⟨P1, P2, P3, P4, P5, P6⟩ := prod_facts hb hn
  refine wpAny_IfExp (wpAny_isTrue_Compare1 (ld F mw (wpAny_Constant_int (eq_int (wpAny_truthy_bool ?_))) hk k1))
  by_cases hW : prod ns = 0
  · rw [if_pos (by simpa using hW)]
    exact wpAny_Constant_str (k _ _ (Told.ve' (l1 hW)))
  · rw [if_neg (by simpa using hW)]
    exact wpAny_BinOp (ld (s := { s with toks := s.toks + 1 }) F ms (wpAny_BinOp (wpAny_Constant_int (ld (s := { s with toks := s.toks + 1 + 1 }) F mm (pow_int_small (P6 hW) (by omega) (by decide) (mul_int (hm := .of_left (intBits_le_64 (by omega) (by omega))) (k _ _ (told_i (l2 hW))))) hk k3))) hk k2)
theorem due_shr (F : Fr g L s.heap m) (hb : ∀ n ∈ ns, 0 ≤ n ∧ n ≤ 6) (hn : ns.length ≤ 4) (mw : m "whole" = some (.int (prod ns) t1)) (mm : m "moved" = some (.int (msum ns) t3)) (ms : m "start" = some (.int x t))
    (k : ∀ v tk, Told v (fold .rshift (.i x) (ns.map fun n => n - 1)) → Q v { s with toks := tk })
    (hk : scope.kind = .function) (k1 : (envOf name scope L f cd).kindOf "whole" = some .local) (k2 : (envOf name scope L f cd).kindOf "start" = some .local) (k3 : (envOf name scope L f cd).kindOf "moved" = some .local) :
    wpAny (model prog w) A (eval (.IfExp (.Compare (.Name "whole" p1) [.Eq] [.Constant (.int 0) 0 p2] p3) (.Constant (.str "by less") 0 p4) (.BinOp (.Name "start" p5) .FloorDiv (.BinOp (.Constant (.int 2) 0 p9) .Pow (.Name "moved" p6) p10) p7) p8) (envOf name scope L f cd)) Q E s := by
  obtain ⟨_, l1, l2⟩ := law_shr ns x hb
  obtain ⟨P1, P2, P3, P4, P5, P6⟩ := prod_facts hb hn
  refine wpAny_IfExp (wpAny_isTrue_Compare1 (ld F mw (wpAny_Constant_int (eq_int (wpAny_truthy_bool ?_))) hk k1))
  by_cases hW : prod ns = 0
  · rw [if_pos (by simpa using hW)]
    exact wpAny_Constant_str (k _ _ (Told.ve' (l1 hW)))
  · rw [if_neg (by simpa using hW)]
    have hpos : (0 : Int) < 2 ^ (msum ns).toNat := Int.pow_pos (by decide)
    have hle : (2 : Int) ^ (msum ns).toNat ≤ 2 ^ 20 := by
      have : (2 : Nat) ^ (msum ns).toNat ≤ 2 ^ 20 := Nat.pow_le_pow_right (by decide) (by omega)
      exact_mod_cast this
    exact wpAny_BinOp (ld (s := { s with toks := s.toks + 1 }) F ms (wpAny_BinOp (wpAny_Constant_int (ld (s := { s with toks := s.toks + 1 + 1 }) F mm (pow_int_small (P6 hW) (by omega) (by decide) (floordiv_int (hp := .inl (PyProof.noPylong_small (by omega))) (by omega) (k _ _ (told_i (l2 hW))))) hk k3))) hk k2)
end

set_option maxHeartbeats 8000000 in
theorem sums_call {w : World} {mean : ExcName → Option Value} {mg mb : Str → Option Value} {base : Heap} {frs : List Env} {A : Around} {s : Shared} {Q E : Value → Shared → Prop} {l : Addr} {lo : Obj} {vs : List Value} {ns : List Int} {x : Int} {t : Tok}
    (G : Ba w mean mg mb base) (B : Below A base frs s.heap) (R : Room A 5) (hlo : s.heap.get? l = some lo) (hl : ListObj lo vs) (hi : IntsAre vs ns) (hn : ns.length ≤ 4) (hb : ∀ n ∈ ns, 0 ≤ n ∧ n ≤ 6) (hx : -1000001 ≤ x ∧ x ≤ 1000001)
    (ret : ∀ r ro ws tl h' tk', s.heap.StaysIn h' → (∀ q ∈ tl, h'.get? q.1 = some q.2 ∧ s.heap.get? q.1 = none) → (r, ro) ∈ tl → ListObj ro ws → ws.length ≤ 6 → (∀ v ∈ ws, AskIn (tl ++ [(l, lo)]) v) → Q (.ref r) { s with heap := h', toks := tk' }) :
    wpAny (model PySem.Challenge.rw_mr0096_01.row.prog w) A (call (.ref 126) [.int x t, .ref l]) Q E s := by
  have XB := G.X
  have TB := G.T
  have hl0 : s.heap.IsList l vs.toArray := ⟨lo, hlo, hl⟩
  refine wpAny_call ?_
  k_dflt (refine' enter [("start", .int x t), ("pieces", .ref l)] XB TB B ?ho ?hcd R.now ?hbind ?hloc ?_ ?c2 ?c3 ?c4 ?c5; (case ho => k_is); (case hcd => k_is); (case hbind => exact BindsTo.of_eq rfl); (case hloc => exact locs rfl); (case c2 => exact rfl); (case c3 => exact rfl); (case c4 => exact rfl); (case c5 => decide))
  intro h1 F N X T
  have TR := topRead_of T
  refine wpAny_execs_cons (wpAny_Assign_Name (wpAny_Constant_int (stN F N fun h2 F2 N2 => ?_)))
  refine wpAny_execs_cons (wpAny_Assign_Name (wpAny_Constant_int (stN F2 N2 fun h3 F3 N3 => ?_)))
  refine wpAny_execs_cons (wpAny_Assign_Name (wpAny_Constant_int (stN F3 N3 fun h4 F4 N4 => ?_)))
  refine wpAny_execs_cons (sums_for R.hh hl0 hi hb F4 N4 rfl rfl rfl rfl (fun u t1 t2 t3 h5 tk5 F5 N5 => ?_) PassesOwn.leaving rfl rfl rfl rfl rfl rfl)
  dsimp only at F5 ⊢
  refine wpAny_execs_cons (comp_intsA (f := fun n => n - 1) (by exact R.hh) F5 N5 (y := "pieces") rfl (hl0.at fun o e => F5.keep l o e) hi (by omega) (fun C n t s₂ m₂ E' _ hns hm => elt_sub hns hm rfl rfl (by decide)) (fun D6 o6 ys6 h6 tk6 F6 N6 l6 i6 => ?_) rfl rfl rfl (by decide) rfl (by decide) (by decide) rfl (by decide) rfl)
  dsimp only
  refine wpAny_execs_cons (wpAny_Assign_Name (wpAny_BinOp (wpAny_BinOp (ld F6 (v := .int x t) rfl (wpAny_Constant_int (mod_int (by decide) (wpAny_Constant_int (sub_int (stN F6 N6 fun h7 F7 N7 => ?_)))))))))
  clear F N F2 N2 F3 N3 F4 N4 F5 N5 F6 N6
  dsimp only at F7 ⊢
  obtain ⟨P1, P2, P3, P4, P5, P6⟩ := prod_facts hb hn
  have hfm := (fdiv_fmod_facts x 7).2.2.1 (by decide)
  refine wpAny_execs_cons (wpAny_Return_some (List_ ?_))
  refine spliced_cons (Tuple_ (k := 0) ?_)
  refine spliced_cons (name_K F7 X TR (by k_is) ?_)
  refine spliced_cons (ld F7 (v := .int x t) rfl ?_)
  refine spliced_cons (ld F7 (v := .ref l) rfl ?_)
  refine spliced_cons (wpAny_BinOp (ld F7 (v := .int x t) rfl (Call_Name1 (name_B F7 X TR (by k_is) (by boot_by_name) (by decide) (callWith_builtin1 (ld F7 (v := .ref l) rfl ?_))))))
  refine sum_ints (by exact R.hh) (hl0.at fun o e => F7.keep l o e) hi fun h8 tk8 t8 st8 => ?_
  have F8 := Fr.after F7 st8
  have N8 : News s.heap s.heap.objs.size h8 _ := fun q hq => ⟨st8 _ _ (N7 q hq).1, (N7 q hq).2⟩
  refine sub_int (spliced_nil (newTuple_N F8 N8 fun h9 F9 N9 => ?_))
  clear F7 N7 F8 N8
  dsimp only at F9 N9 ⊢
  -- floordiv
  refine spliced_cons (Tuple_ (k := 0) ?_)
  refine spliced_cons (name_K F9 X TR (by k_is) ?_)
  refine spliced_cons (ld F9 (v := .int x t) rfl ?_)
  refine spliced_cons (ld F9 (v := .ref l) rfl ?_)
  refine spliced_cons (due_div (p8 := ⟨0, 0, 0, 0⟩) F9 hb hn rfl rfl (fun v10 tk10 d10 => ?_) rfl rfl rfl)
  refine spliced_nil (newTuple_N F9 N9 fun h11 F11 N11 => ?_)
  clear F9 N9
  dsimp only at F11 N11 ⊢
  -- lshift
  refine spliced_cons (Tuple_ (k := 0) ?_)
  refine spliced_cons (name_K F11 X TR (by k_is) ?_)
  refine spliced_cons (ld F11 (v := .int x t) rfl ?_)
  refine spliced_cons (ld F11 (v := .ref D6) rfl ?_)
  refine spliced_cons (due_shl (p8 := ⟨0, 0, 0, 0⟩) F11 hx hb hn rfl rfl rfl (fun v12 tk12 d12 => ?_) rfl rfl rfl rfl)
  refine spliced_nil (newTuple_N F11 N11 fun h13 F13 N13 => ?_)
  clear F11 N11
  dsimp only at F13 N13 ⊢
  -- rshift
  refine spliced_cons (Tuple_ (k := 0) ?_)
  refine spliced_cons (name_K F13 X TR (by k_is) ?_)
  refine spliced_cons (ld F13 (v := .int x t) rfl ?_)
  refine spliced_cons (ld F13 (v := .ref D6) rfl ?_)
  refine spliced_cons (due_shr (p8 := ⟨0, 0, 0, 0⟩) F13 hb hn rfl rfl rfl (fun v14 tk14 d14 => ?_) rfl rfl rfl rfl)
  refine spliced_nil (newTuple_N F13 N13 fun h15 F15 N15 => ?_)
  clear F13 N13
  dsimp only at F15 N15 ⊢
  -- ipow
  refine spliced_cons (Tuple_ (k := 0) ?_)
  refine spliced_cons (name_K F15 X TR (by k_is) ?_)
  refine spliced_cons (ld F15 (v := .int (x.fmod 7 - 3) _) rfl ?_)
  refine spliced_cons (comp_ints (f := fun n => n.fmod 3) (by exact R.hh) F15 N15 (y := "pieces") rfl (hl0.at fun o e => F15.keep l o e) hi (by omega) (fun C n t s₂ m₂ E' _ hns hm => elt_mod (by decide) hns hm rfl rfl (by decide)) (fun D16 o16 ys16 h16 tk16 F16 N16 l16 i16 => ?_) rfl rfl (by decide) (by decide) (by decide) rfl (by decide) rfl)
  clear F15 N15
  refine spliced_cons (wpAny_BinOp (ld F16 (v := .int (x.fmod 7 - 3) _) rfl (ld F16 (v := .int (rprod ns) t2) rfl ?_)))
  refine pow_int_small P3 (by omega) (by omega) ?_
  refine spliced_nil (newTuple_N F16 N16 fun h17 F17 N17 => ?_)
  clear F16 N16
  dsimp only at F17 N17 ⊢
  refine spliced_nil (newList_N F17 N17 fun h18 F18 N18 => ?_)
  dsimp only at F18 N18 ⊢
  have q1 := law_sub ns x
  have q2 := law_div ns x hb
  have q3 := law_shl hx hb hn
  have q4 := law_shr ns x hb
  have q5 := law_pow (ns := ns) (b := x.fmod 7 - 3) (by omega) hb hn
  have hmap : ∀ f : Int → Int, (ns.map f).length ≤ 1000 := fun f => by rw [List.length_map]; omega
  refine ret _ _ _ _ h18 _ F18.keep (fun q hq => ⟨(N18 q hq).1, (N18 q hq).2.2⟩) (List.Mem.head _) ⟨rfl, _, rfl⟩ (by simp) ?_
  intro v hv
  simp only [List.mem_cons, List.not_mem_nil, or_false] at hv
  rcases hv with rfl | rfl | rfl | rfl | rfl
  · refine' AskIn.mk' .sub ?m1 ?m2 ?m3 hl hi (by omega) q1.1 ?m6
    case m1 => exact List.mem_append_left _ (by k_mem)
    case m2 => exact ⟨rfl, _, rfl⟩
    case m3 => exact List.mem_append_right _ (List.Mem.head _)
    case m6 => exact told_i q1.2
  · refine' AskIn.mk' .floordiv ?m1 ?m2 ?m3 hl hi (by omega) q2.1 ?m6
    case m1 => exact List.mem_append_left _ (by k_mem)
    case m2 => exact ⟨rfl, _, rfl⟩
    case m3 => exact List.mem_append_right _ (List.Mem.head _)
    case m6 => exact d10
  · refine' AskIn.mk' .lshift ?m1 ?m2 ?m3 l6 i6 (hmap _) q3.1 ?m6
    case m1 => exact List.mem_append_left _ (by k_mem)
    case m2 => exact ⟨rfl, _, rfl⟩
    case m3 => exact List.mem_append_left _ (by k_mem)
    case m6 => exact d12
  · refine' AskIn.mk' .rshift ?m1 ?m2 ?m3 l6 i6 (hmap _) q4.1 ?m6
    case m1 => exact List.mem_append_left _ (by k_mem)
    case m2 => exact ⟨rfl, _, rfl⟩
    case m3 => exact List.mem_append_left _ (by k_mem)
    case m6 => exact d14
  · refine' AskIn.mk' .ipow ?m1 ?m2 ?m3 l16 i16 (hmap _) q5.1 ?m6
    case m1 => exact List.mem_append_left _ (by k_mem)
    case m2 => exact ⟨rfl, _, rfl⟩
    case m3 => exact List.mem_append_left _ (by k_mem)
    case m6 => exact told_i q5.2
end Mine
end

/- B1 -/
section
open PySem PySem.W PySem.Spec PySem.Calls PyProof.Rows
set_option Elab.async false
set_option maxRecDepth 100000
namespace Mine

theorem fillNowB1 (w : World) (base : Heap) : PySem.Challenge.rw_mr0096_01.name = PySem.Challenge.rw_mr0096_01.name ∨ (hd.heap_39 w.params).In base := by
  k_fill
  exact Or.inl rfl

theorem pick_back (v : Value) : ∀ (tl : List Value), tl.length ≤ 3 → (slicePick (v :: tl).toArray none (some 0) (some (-1))).toList = tl.reverse
  | [], _ => by kernel_rfl
  | [_], _ => by kernel_rfl
  | [_, _], _ => by kernel_rfl
  | [_, _, _], _ => by kernel_rfl
  | _ :: _ :: _ :: _ :: _, h => absurd h (by simp)

theorem item_at {prog : Program} {w : World} {A : Around} {E : Value → Shared → Prop} {s : Shared} {value slice : Expr} {l : Addr} {vs : List Value} {k : Int} {u : Tok} {v : Value} {ops : List Value} {Q : Value → Shared → Prop}
    (hl : s.heap.IsList l vs.toArray) (h0 : 0 ≤ k) (hhi : k < 2 ^ 63) (hx : vs[k.toNat]? = some v) (h : Q v s)
    (hs : subscripted slice false (.ref l) (.int k u) = operate ops (getItem (.ref l) (.int k u))) :
    wpAny (model prog w) A (subscriptTail value slice (.ref l) (.int k u)) Q E s :=
  tail_any hl.typeIs slot_list_getitem.lookup (wpAny_getItem_list hl h0 hhi (by simpa using hx) h) hs

set_option maxHeartbeats 8000000 in
theorem settled_call {w : World} {mean : ExcName → Option Value} {mg mb : Str → Option Value} {base : Heap} {frs : List Env} {A : Around} {s : Shared} {Q E : Value → Shared → Prop} {wl ml : Addr} {wvs : List Value} {ws : List Int} {hv : Value} {tvs : List Value} {tl : List Int} {outset : Bool}
    (G : Ba w mean mg mb base) (B : Below A base frs s.heap) (R : Room A 1) (hwl : s.heap.IsList wl wvs.toArray) (hwi : IntsAre wvs ws) (hw5 : ws.length = 5) (hml : s.heap.IsList ml (hv :: tvs).toArray) (hmi : IntsAre tvs tl) (hn : tl.length ≤ 3) (hb : ∀ n ∈ tl, -1 ≤ n ∧ n ≤ 3)
    (ret : ∀ h' tk', s.heap.StaysIn h' → Q (.bool (settle ws outset false tl.reverse)) { s with heap := h', toks := tk' }) :
    wpAny (model PySem.Challenge.rw_mr0096_01.row.prog w) A (call (.ref 138) [.ref wl, .bool outset, .ref ml]) Q E s := by
  have XB := G.X
  have TB := G.T
  refine wpAny_call ?_
  k_dflt (refine' enter [("ways", .ref wl), ("outset", .bool outset), ("marks", .ref ml)] XB TB B ?ho ?hcd R.now ?hbind ?hloc ?_ ?c2 ?c3 ?c4 ?c5; (case ho => k_is); (case hcd => k_is); (case hbind => exact BindsTo.of_eq rfl); (case hloc => exact locs rfl); (case c2 => exact rfl); (case c3 => exact rfl); (case c4 => exact rfl); (case c5 => decide))
  intro h1 F N X T
  have hlen := hmi.length
  refine wpAny_execs_cons (wpAny_Assign_Name (Constant_bool (k := 0) (pos := ⟨73, 13, 73, 18⟩) (stN F N fun h2 F2 N2 => ?_)))
  refine wpAny_execs_cons (wpAny_For (Subscript_ (ld F2 (v := .ref ml) rfl (wpAny_Slice (wpAny_evalPart_none (wpAny_evalPart_some (wpAny_Constant_int (wpAny_evalPart_some (UnaryOp_ (wpAny_Constant_int (neg_int ?_)))))))))))
  refine kmk_slice3_lit (zs := tvs.reverse) F2 N2 (hml.at fun o e => F2.keep ml o e) .none (.int 0 _) (.int (-1) _) (by decide) (pick_back hv tvs (by omega)) (fun D h3 F3 N3 l3 => ?_) (by with_unfolding_all rfl) (fun _ => by with_unfolding_all rfl) (by simp only [List.size_toArray, List.length_cons, sizeLine_eq]; omega)
  dsimp only at F3 N3 ⊢
  clear F N F2 N2
  have n3 := N3 _ (List.Mem.head _)
  have hri : IntsAre tvs.reverse tl.reverse := hmi.reverse
  refine wpAny_pyIter_list (items := tvs.reverse.toArray) ⟨_, n3.1, rfl, _, rfl⟩ ?_
  have F4 := F3.push { cls := .type "list_iterator", data := .fields #[.ref D, .int 0 0] }
  have N4 := N3.push F3 { cls := .type "list_iterator", data := .fields #[.ref D, .int 0 0] }
  have hDI : D ≠ h3.objs.size := Nat.ne_of_lt (Heap.lt_size n3.1)
  refine codeAny_forLoop (fun n s' => ∃ (k' : Nat) (h' : Heap) (tk' : Nat) (m' : Str → Option Value) (o' : Obj) (turned : Bool), n = tl.length - k' ∧ k' ≤ tl.length ∧ s' = { s with heap := h', toks := tk' } ∧ Fr s.heap s.heap.objs.size h' m' ∧
      News s.heap s.heap.objs.size h' [(h3.objs.size, o'), (D, listOf tvs.reverse.toArray 0)] ∧ IterObj o' D k' ∧ m' "ways" = some (.ref wl) ∧ m' "outset" = some (.bool outset) ∧ m' "turned" = some (.bool turned) ∧
      settle ws outset turned (tl.reverse.drop k') = settle ws outset false tl.reverse) ?_ tl.length
    ⟨0, _, _, _, _, false, rfl, Nat.zero_le _, rfl, F4, N4, ⟨rfl, rfl⟩, rfl, rfl, rfl, rfl⟩
  rintro n _ ⟨k', h', tk', m', o', turned, rfl, hk', rfl, F', N', hI', m1, m2, m3, he⟩
  have nI := N' _ (List.Mem.head _)
  have nD := N' _ (List.Mem.tail _ (List.Mem.head _))
  have hit : h'.IsListIter h3.objs.size D k' := ⟨o', nI.1, hI'.1, hI'.2⟩
  have hls : h'.IsList D tvs.reverse.toArray := ⟨_, nD.1, rfl, _, rfl⟩
  have hrl : tl.reverse.length = tl.length := List.length_reverse
  rcases Nat.lt_or_ge k' tl.length with hlt | hge
  · have hlt' : k' < tl.reverse.length := by omega
    obtain ⟨t, hx⟩ := hri.get k' tl.reverse[k'] (by simp [hlt])
    rw [drop_cons hlt'] at he
    have hbm := hb tl.reverse[k'] (List.mem_reverse.mp (List.getElem_mem hlt'))
    generalize tl.reverse[k'] = mk at he hx hbm
    refine wpAny_pyNext_list_item hit hls (x := .int mk t) (by simpa using hx) fun h5 hit5 hs5 => ?_
    have F5 := F'.change hs5 nI.2.1 nI.2.2
    obtain ⟨o5, ho5, hc5, hd5⟩ := hit5
    have N5 : News s.heap s.heap.objs.size h5 [(h3.objs.size, o5), (D, listOf tvs.reverse.toArray 0)] := fun q hq => by
      rcases List.mem_cons.mp hq with rfl | hq
      · exact ⟨ho5, nI.2⟩
      · rw [List.mem_singleton.mp hq]
        exact ⟨(hs5.2 _ hDI).trans nD.1, nD.2⟩
    refine wpAny_assign_Name (stN F5 N5 fun h6 F6 N6 => ?_)
    refine wpAny_passesOwn PassesOwn.leaving ?_
    obtain ⟨wt, hwx⟩ := hwi.get (mk + 1).toNat (wayAt ws mk) (by
      have : (mk + 1).toNat < ws.length := by omega
      unfold wayAt
      rw [List.getD_eq_getElem?_getD, List.getElem?_eq_getElem this]; rfl)
    rw [settle] at he
    refine wpAny_execs_cons (wpAny_Assign_Name (Subscript_ (ld F6 (v := .ref wl) ((if_neg (by decide)).trans m1) (wpAny_BinOp (ld F6 (v := .int mk t) (if_pos rfl) (wpAny_Constant_int (add_int ?_)))))))
    refine item_at (hwl.at fun o e => F6.keep wl o e) (by omega) (by omega) hwx ?_ (by with_unfolding_all rfl)
    generalize wayAt ws mk = way at he hwx
    refine stN F6 N6 fun h7 F7 N7 => ?_
    have mt := (if_neg (show ("turned" : Str) ≠ "way" by decide) : (if ("turned" : Str) = "way" then some (Value.int way wt) else if ("turned" : Str) = "mark" then some (Value.int mk t) else m' "turned") = _).trans ((if_neg (by decide)).trans m3)
    refine wpAny_execs_cons (wpAny_If (wpAny_isTrue_Compare1 (ld F7 (v := .int way wt) (if_pos rfl) (wpAny_Constant_int (lt_int (wpAny_truthy_bool ?_))))))
    by_cases h2 : way < 2
    · rw [if_pos h2] at he
      rw [if_pos (by simpa using h2)]
      refine wpAny_execs_cons (wpAny_Return_some (wpAny_Compare1 (wpAny_Compare1 (ld F7 (v := .int way wt) (if_pos rfl) (wpAny_Constant_int (eq_int (ld F7 mt (ne_bool ?_))))))))
      have e : ((way == 1) != turned) = settle ws outset false tl.reverse := by rw [← he]; rfl
      rw [e]
      exact ret _ _ F7.keep
    · rw [if_neg h2] at he
      rw [if_neg (by simpa using h2)]
      refine wpAny_execs_nil ?_
      refine wpAny_execs_cons (wpAny_If (wpAny_isTrue_Compare1 (ld F7 (v := .int way wt) (if_pos rfl) (wpAny_Constant_int (eq_int (wpAny_truthy_bool ?_))))))
      by_cases h3' : way = 3
      · rw [if_pos h3'] at he
        rw [if_pos (by simpa using h3')]
        refine wpAny_execs_cons (wpAny_Assign_Name (UnaryOp_ (ld F7 mt (not_of (wpAny_truthy_bool (stN F7 N7 fun h8 F8 N8 => ?_))))))
        refine wpAny_execs_nil (wpAny_execs_nil ?_)
        exact ⟨tl.length - (k' + 1), by omega, k' + 1, h8, _, _, o5, !turned, rfl, by omega, rfl, F8, N8, ⟨hc5, hd5⟩, (if_neg (by decide)).trans ((if_neg (by decide)).trans ((if_neg (by decide)).trans m1)),
          (if_neg (by decide)).trans ((if_neg (by decide)).trans ((if_neg (by decide)).trans m2)), if_pos rfl, he⟩
      · rw [if_neg h3'] at he
        rw [if_neg (by simpa using h3')]
        refine wpAny_execs_nil (wpAny_execs_nil ?_)
        exact ⟨tl.length - (k' + 1), by omega, k' + 1, h7, _, _, o5, turned, rfl, by omega, rfl, F7, N7, ⟨hc5, hd5⟩, (if_neg (by decide)).trans ((if_neg (by decide)).trans m1),
          (if_neg (by decide)).trans ((if_neg (by decide)).trans m2), mt, he⟩
  · have hz : tl.reverse.drop k' = [] := List.drop_eq_nil_of_le (by omega)
    rw [hz] at he
    refine wpAny_pyNext_list_end (by exact R.hh) hit hls (by simp; omega) fun h5 hs5 => ?_
    have F5 := Fr.ext F' hs5 nI.2.1 nI.2.2
    refine wpAny_execs_nil (wpAny_execs_cons (wpAny_Return_some (wpAny_Compare1 (ld F5 m2 (ld F5 m3 (ne_bool ?_))))))
    rw [show (outset != turned) = settle ws outset false tl.reverse from he]
    exact ret _ _ F5.keep
end Mine
end

/- B2 -/
section
open PySem PySem.W PySem.Spec PySem.Calls PyProof.Rows
set_option Elab.async false
set_option maxRecDepth 100000
namespace Mine

theorem fillNowB2 (w : World) (base : Heap) : PySem.Challenge.rw_mr0096_01.name = PySem.Challenge.rw_mr0096_01.name ∨ (hd.heap_39 w.params).In base := by
  k_fill
  exact Or.inl rfl

/-- entering a def that has cells -/
theorem enterC {prog : Program} {w : World} {K : Frag} {A : Around} {s : Shared} {base : Heap} {frs : List Env}
    {R : Result → Shared → Prop} {name qual : Str} {params : Arguments} {body : List Stmt} {scope : Scope} {dV kV doc pm cdv ct oc : Value} {an od : Option Addr} {osl : Array (Option Value)} {f : Addr} {args : Args} (binds : List (Str × Value))
    {p : Program} {loose : List Str} {mean : ExcName → Option Value} {mg mb : Str → Option Value}
    (XB : K.In base) (TB : Top p loose mean mg mb base) (B : Below A base frs s.heap)
    (ho : K.lookup f = some ⟨oc, od, .func (fnOf name qual params body scope dV kV doc pm an cdv ct), osl⟩) (hcd : codeIn K cdv qual = true) (hroom : A.depth < recursionLimit)
    (hbind : BindsTo s (fnOf name qual params body scope dV kV doc pm an cdv ct) args binds) (hkind : (binds.all fun y => scope.names.lookup y.1 == some .local || scope.names.lookup y.1 == some .cell) = true)
    (hnd : ((cellsFrom 0 scope.names []).map (·.1)).Nodup)
    (h : ∀ h₁ tk cells, Fr s.heap s.heap.objs.size h₁ (bindL (envOfC qual scope s.heap.objs.size f cdv).kindOf binds fun _ => none) → News s.heap s.heap.objs.size h₁ cells →
      CellsAre (bindC (envOfC qual scope s.heap.objs.size f cdv).kindOf binds fun _ => none) (cellsFrom (s.heap.objs.size + 1) scope.names []) cells → K.In s.heap → Top p loose mean mg mb s.heap →
      wpAny (model prog w) (A.deeper (envOfC qual scope s.heap.objs.size f cdv)) (execs body (envOfC qual scope s.heap.objs.size f cdv))
        (fun fl s' => R (.ok (.ret (match fl with | .ret v => v | _ => .none))) s')
        (fun e s' => wpAny (model prog w) (A.deeper (envOfC qual scope s.heap.objs.size f cdv)) (leaving (envOfC qual scope s.heap.objs.size f cdv) e) (fun _ s'' => R (.error e) s'') (fun e' s'' => R (.error e') s'') s')
        { s with heap := h₁, toks := tk })
    (hco : scope.isCoroutine = false) (hgen : scope.isGenerator = false) (hk : scope.kind = .function) : codeAny (model prog w) A (.call (.ref f) args) R s := by
  have X := XB.keeps B.stays
  have T := TB.keeps B.stays
  refine codeAny_call_function hroom (X _ _ ho) rfl hco hgen rfl (codeRec_of X hcd) (hbind _ _ _ _ ?_)
  refine wpAny_newFunctionEnv_cells hk (kindsX hkind _) fun env' he s' x => ?_
  subst he
  refine ⟨T.nolimit.keeps x.toInCall.keep, codeAny_func ?_⟩
  obtain ⟨h₁, tk, rfl, _⟩ := x.done
  have hk₁ := x.toInCall.keep
  obtain ⟨cells, NC, Y⟩ := Cl.news (h₀ := s.heap) (Nat.le_refl _) fun n c hm => ⟨x.cell n c (lookup_of_mem_nodup (cellsFrom_names scope.names 0 (s.heap.objs.size + 1) [] [] rfl ▸ hnd) hm), x.above n c hm⟩
  exact h h₁ tk cells ⟨x.toInCall.ns, hk₁, Nat.le_refl _⟩ NC Y X T

set_option maxHeartbeats 8000000 in
theorem left_call {w : World} {mean : ExcName → Option Value} {mg mb : Str → Option Value} {base : Heap} {frs : List Env} {A : Around} {s : Shared} {Q E : Value → Shared → Prop} {l : Addr} {lo : Obj} {vs : List Value} {ns : List Int} {x : Int} {t : Tok}
    (G : Ba w mean mg mb base) (B : Below A base frs s.heap) (R : Room A 5) (hlo : s.heap.get? l = some lo) (hl : ListObj lo vs) (hi : IntsAre vs ns) (hn : ns.length ≤ 4) (hb : ∀ n ∈ ns, 0 ≤ n ∧ n ≤ 6)
    (ret : ∀ r ro ws tl h' tk', s.heap.StaysIn h' → (∀ q ∈ tl, h'.get? q.1 = some q.2 ∧ s.heap.get? q.1 = none) → (r, ro) ∈ tl → ListObj ro ws → ws.length ≤ 6 → (∀ v ∈ ws, AskIn (tl ++ [(l, lo)]) v) → Q (.ref r) { s with heap := h', toks := tk' }) :
    wpAny (model PySem.Challenge.rw_mr0096_01.row.prog w) A (call (.ref 131) [.int x t, .ref l]) Q E s := by
  have XB := G.X
  have TB := G.T
  have hl0 : s.heap.IsList l vs.toArray := ⟨lo, hlo, hl⟩
  refine wpAny_call ?_
  k_dflt (refine' enterC [("start", .int x t), ("pieces", .ref l)] XB TB B ?ho ?hcd R.now ?hbind ?hloc ?hnd ?_ ?c2 ?c3 ?c4; (case ho => k_is); (case hcd => k_is); (case hbind => exact BindsTo.of_eq rfl); (case hloc => exact rfl); (case hnd => decide); (case c2 => exact rfl); (case c3 => exact rfl); (case c4 => exact rfl))
  intro h1 tk1 cells F N Y X T
  have TR := topRead_of T
  obtain ⟨co, rfl, hco⟩ := Y.one
  have hfm := (fdiv_fmod_facts x 11).2.2.1 (by decide)
  refine wpAny_execs_cons (wpAny_Assign_Name (wpAny_BinOp (wpAny_BinOp (nameX_L (cl := cellsFrom (s.heap.objs.size + 1) _ []) F (v := .int x t) rfl (wpAny_Constant_int (mod_int (by decide) (wpAny_Constant_int (add_int ?_))))))))
  refine storeX_C (cl := cellsFrom (s.heap.objs.size + 1) _ []) F N rfl (.head (fun _ h => nomatch h)) hco (fun h2 co2 F2 N2 hco2 => ?_) rfl rfl
  dsimp only
  have n2 := N2 _ (List.Mem.head _)
  obtain ⟨q, hq⟩ : ∃ q, q = x.fmod 11 + 1 := ⟨_, rfl⟩
  have hq1 : 1 ≤ q ∧ q ≤ 11 := by omega
  rw [← hq] at hco2
  clear hq
  refine wpAny_execs_cons (Assign_ListComp_DC (K := .int) (pz := fun _ => true) (d := fun n => .int (q * (n + 1))) (cl := [("least", s.heap.objs.size + 1)]) (by with_unfolding_all rfl) rfl (by exact R.hh) (by with_unfolding_all rfl) (by decide) rfl (by decide) rfl rfl rfl (nameX_L (cl := cellsFrom (s.heap.objs.size + 1) _ []) F2 (v := .ref l) rfl
    ⟨l, vs, ns, rfl, hl0.at fun o e => F2.keep l o e, hi.areOf, by rw [sizeLine_eq]; omega, F2, N2, fun C a v s₂ m₂ E' _ _ _ _ _ => wpAny_pure ⟨rfl, keeps_toks⟩, ?_, ?_⟩) (fun _ => rfl))
  · rintro C a v s₂ m₂ E' ha ⟨ta, rfl⟩ _ hns hm hkeep
    refine wpAny_BinOp (wpAny_Name (wpAny_loadName_cell rfl rfl rfl ⟨co2, hkeep _ _ n2.1, hco2⟩ ?_) (by decide))
    refine wpAny_BinOp (wpAny_Name (wpAny_loadName_local rfl rfl hns hm (wpAny_Constant_int (add_int ?_))) (by decide))
    exact mul_int (hm := .of_left (intBits_le_64 (by omega) (by omega))) ⟨.int _ _, keeps_toks⟩
  intro D ys h3 tk3 F3 N3' hD hlD hc
  obtain ⟨o3, ho3, hoc3, no3, hod3⟩ := hlD
  rw [List.filter_eq_self.mpr (fun _ _ => rfl)] at hc
  have hys : IntsAre ys (ns.map fun n => q * (n + 1)) := hc.intsOf
  have N3 := News.more F3 N3' ho3 (fun es n q => by rw [hod3] at q; cases q) hD
  clear N3' F F2 N N2 Y
  dsimp only
  have hlysl := hys.length
  rw [List.length_map] at hlysl
  refine wpAny_execs_cons (wpAny_Return_some (List_ ?_))
  refine spliced_cons (Tuple_ (k := 0) ?_)
  refine spliced_cons (nameX_K (cl := cellsFrom (s.heap.objs.size + 1) _ []) F3 X TR (by k_is) ?_)
  refine spliced_cons (nameX_L (cl := cellsFrom (s.heap.objs.size + 1) _ []) F3 (v := .int x t) rfl ?_)
  refine spliced_cons (wpAny_BinOp (nameX_L (cl := cellsFrom (s.heap.objs.size + 1) _ []) F3 (v := .ref D) rfl (List_ (spliced_cons (nameX_C (cl := cellsFrom (s.heap.objs.size + 1) _ []) N3 rfl (List.Mem.tail _ (List.Mem.head _)) hco2 (spliced_nil (newList_N F3 N3 fun h4 F4 N4 => ?_)))))))
  refine add_lists_ints (hsz := ?hz) F4 N4 (vs := ys) (ws := [.int q _]) (ns := ns.map fun n => q * (n + 1)) (ms := [q]) ⟨o3, (N4 _ (List.Mem.tail _ (List.Mem.head _))).1, hoc3, no3, hod3⟩ ⟨_, (N4 _ (List.Mem.head _)).1, rfl, _, rfl⟩ hys (.cons q _ .nil) fun h5 F5 N5 i5 => ?_
  case hz => simp only [List.length_map, List.length_cons, List.length_nil, sizeLine_eq]; omega
  clear F4 N4
  refine spliced_cons (wpAny_BinOp (nameX_L (cl := cellsFrom (s.heap.objs.size + 1) _ []) F5 (v := .int x t) rfl (nameX_C (cl := cellsFrom (s.heap.objs.size + 1) _ []) N5 rfl (List.Mem.tail _ (List.Mem.tail _ (List.Mem.tail _ (List.Mem.head _)))) hco2 (mod_int (by omega) ?_))))
  refine spliced_nil (newTuple_N F5 N5 fun h6 F6 N6 => ?_)
  clear F5 N5
  dsimp only at F6 N6 ⊢
  refine spliced_cons (Tuple_ (k := 0) ?_)
  refine spliced_cons (nameX_K (cl := cellsFrom (s.heap.objs.size + 1) _ []) F6 X TR (by k_is) ?_)
  refine spliced_cons (nameX_L (cl := cellsFrom (s.heap.objs.size + 1) _ []) F6 (v := .int x t) rfl ?_)
  refine spliced_cons (wpAny_BinOp (List_ (spliced_cons (nameX_C (cl := cellsFrom (s.heap.objs.size + 1) _ []) N6 rfl (by k_mem) hco2 (spliced_nil (newList_N F6 N6 fun h7 F7 N7 => nameX_L (cl := cellsFrom (s.heap.objs.size + 1) _ []) F7 (v := .ref D) rfl ?_))))))
  refine add_lists_ints (hsz := ?hz) F7 N7 (vs := [.int q _]) (ws := ys) (ns := [q]) (ms := ns.map fun n => q * (n + 1)) ⟨_, (N7 _ (List.Mem.head _)).1, rfl, _, rfl⟩ ⟨o3, (N7 (D, o3) (by k_mem)).1, hoc3, no3, hod3⟩ (.cons q _ .nil) hys fun h8 F8 N8 i8 => ?_
  case hz => simp only [List.length_map, List.length_cons, List.length_nil, sizeLine_eq]; omega
  clear F7 N7
  refine spliced_cons (wpAny_BinOp (nameX_L (cl := cellsFrom (s.heap.objs.size + 1) _ []) F8 (v := .int x t) rfl (nameX_C (cl := cellsFrom (s.heap.objs.size + 1) _ []) N8 rfl (by k_mem) hco2 (mod_int (by omega) ?_))))
  refine spliced_nil (newTuple_N F8 N8 fun h9 F9 N9 => ?_)
  clear F8 N8
  dsimp only at F9 N9 ⊢
  refine spliced_nil (newList_N F9 N9 fun h10 F10 N10 => ?_)
  dsimp only at F10 N10 ⊢
  have q1 := law_mod1 (q := q) (by omega) ns x hb
  have q2 := law_mod2 (q := q) (by omega) ns x hb
  refine ret _ _ _ _ h10 _ F10.keep (fun q hq => ⟨(N10 q hq).1, (N10 q hq).2.2⟩) (List.Mem.head _) ⟨rfl, _, rfl⟩ (by simp) ?_
  intro v hv
  simp only [List.mem_cons, List.not_mem_nil, or_false] at hv
  rcases hv with rfl | rfl
  · refine' AskIn.mk' .mod ?m1 ?m2 ?m3 ?m4 i5 ?m7 q1.1 ?m6
    case m1 => exact List.mem_append_left _ (by k_mem)
    case m2 => exact ⟨rfl, _, rfl⟩
    case m3 => exact List.mem_append_left _ (by k_mem)
    case m4 => exact ⟨rfl, _, rfl⟩
    case m6 => exact told_i q1.2
    case m7 => simp only [List.length_append, List.length_map, List.length_cons, List.length_nil]; omega
  · refine' AskIn.mk' .mod ?m1 ?m2 ?m3 ?m4 i8 ?m7 q2.1 ?m6
    case m1 => exact List.mem_append_left _ (by k_mem)
    case m2 => exact ⟨rfl, _, rfl⟩
    case m3 => exact List.mem_append_left _ (by k_mem)
    case m4 => exact ⟨rfl, _, rfl⟩
    case m6 => exact told_i q2.2
    case m7 => simp only [List.length_append, List.length_map, List.length_cons, List.length_nil]; omega
end Mine
end

/- B3 -/
section
open PySem PySem.W PySem.Spec PySem.Calls PyProof.Rows
set_option Elab.async false
set_option maxRecDepth 100000
namespace Mine

theorem fillNowB3 (w : World) (base : Heap) : PySem.Challenge.rw_mr0096_01.name = PySem.Challenge.rw_mr0096_01.name ∨ (hd.heap_39 w.params).In base := by
  k_fill
  exact Or.inl rfl

/-- a comprehension each of whose turns makes one ask -/
theorem rest_asks {prog : Program} {w : World} {A : Around} {h₀ : Heap} {L : Addr} {m : Str → Option Value} {env : Env} {elt : Expr} {x : Str} {scope : Scope} {cl : List (Str × Addr)} {s : Shared} {S : List (Addr × Obj) → Prop} {P : Nat → Value → Prop} {Fin : List Value → List (Addr × Obj) → Prop} {n : Nat} {news₀ : List (Addr × Obj)} (ex : List (Addr × Obj))
    (hS : ∀ news, (∀ p ∈ news₀, p ∈ news) → S news)
    (turn : ∀ i v I oI C oC D ys m₂ h tk E' news (Q' : Value → Shared → Prop), i < n → P i v → LCg.NsObj oC m₂ → m₂ x = some v → Fr h₀ L h m → News h₀ L h ((I, oI) :: (C, oC) :: (D, LCg.lst ys) :: news) → (∀ p ∈ news₀, p ∈ news) →
      (∀ b o h' tk', Fr h₀ L h' m → News h₀ L h' ((b, o) :: (I, oI) :: (C, oC) :: (D, LCg.lst ys) :: news) → (∀ p ∈ (I, oI) :: (C, oC) :: (D, LCg.lst ys) :: news, p.1 ≠ b) → AskIn ((b, o) :: news ++ ex) (.ref b) → Q' (.ref b) { s with heap := h', toks := tk' }) →
      wpAny (model prog w) A (eval elt (compEnvC scope cl C env)) Q' E' { s with heap := h, toks := tk })
    (fin : ∀ ys news, ys.length = n → (∀ y ∈ ys, AskIn (news ++ ex) y) → (∀ p ∈ news₀, p ∈ news) → Fin ys news) :
    ∀ k i ys news, i + k = n → ys.length = i → (∀ y ∈ ys, AskIn (news ++ ex) y) → (∀ p ∈ news₀, p ∈ news) → LCg.CompRest prog w A h₀ L m env elt x scope cl s S P Fin k i ys news := by
  intro k
  induction k with
  | zero => intro i ys news hik hl ha hs; exact LCg.CompRest.zero (fin ys news (by omega) ha hs)
  | succ k ih =>
    intro i ys news hik hl ha hs
    refine LCg.CompRest.succ fun v I oI C oC D m₂ h tk E' hP hoC hx F N off ne => ?_
    refine turn i v I oI C oC D ys m₂ h tk E' news _ (by omega) hP hoC hx F N hs fun b o h' tk' F' N' hb hask => ?_
    have up : ∀ p ∈ news₀, p ∈ (b, o) :: news := fun p hp => List.mem_cons_of_mem _ (hs p hp)
    refine LCg.CompEnd.intro F' N' ((b, o) :: news) (fun p hp => ?_) ⟨⟨Ne.symm (hb _ (List.Mem.head _)), Ne.symm (hb _ (List.Mem.tail _ (List.Mem.head _))), Ne.symm (hb _ (List.Mem.tail _ (List.Mem.tail _ (List.Mem.head _))))⟩, off⟩ (hS _ up) (ih (i + 1) _ _ (by omega) (by simp [hl]) (fun y hy => ?_) up)
    · rcases List.mem_cons.mp hp with e | hp
      · exact e ▸ List.Mem.tail _ (List.Mem.head _)
      · rcases List.mem_cons.mp hp with e | hp
        · exact e ▸ List.Mem.tail _ (List.Mem.tail _ (List.Mem.head _))
        · rcases List.mem_cons.mp hp with e | hp
          · exact e ▸ List.Mem.tail _ (List.Mem.tail _ (List.Mem.tail _ (List.Mem.head _)))
          · rcases List.mem_cons.mp hp with e | hp
            · exact e ▸ List.Mem.head _
            · exact List.Mem.tail _ (List.Mem.tail _ (List.Mem.tail _ (List.Mem.tail _ hp)))
    · rcases List.mem_append.mp hy with hy | hy
      · exact (ha y hy).mono fun p hp => by rw [List.cons_append]; exact List.mem_cons_of_mem _ hp
      · rw [List.mem_singleton.mp hy]; exact hask

def plainElt : Expr → Bool
  | .Starred _ _ => false
  | _ => true
theorem starEach_plain (e : Expr) (rest : List Expr) (env : Env) (h : plainElt e = true) : starEach (e :: rest) env = (false, eval e env) :: starEach rest env := by
  cases e <;> first | rfl | (exact Bool.noConfusion h)

section
variable {M : Model} {A : Around} {E : Value → Shared → Prop} {s : Shared} {env : Env}
theorem spl {e : Expr} {rest : List Expr} {pos : Pos} {Q : List Value → Shared → Prop} (h : wpAny M A (eval e env) (fun v s₁ => wpAny M A (spliced (backTo pos (starEach rest env))) (fun vs s₂ => Q (v :: vs) s₂) E s₁) E s)
    (he : plainElt e = true := by rfl) : wpAny M A (spliced (backTo pos (starEach (e :: rest) env))) Q E s := by
  rw [starEach_plain e rest env he]
  exact spliced_cons h
theorem spl_nil {pos : Pos} {Q : List Value → Shared → Prop} (h : Q [] s) : wpAny M A (spliced (backTo pos (starEach [] env))) Q E s := spliced_nil h
theorem row5 {g : Heap} {L : Addr} {m : Str → Option Value} {news : List (Addr × Obj)} {a b c d e : Int} {p1 p2 p3 p4 p5 p : Pos} {Q : Value → Shared → Prop} (F : Fr g L s.heap m) (N : News g L s.heap news)
    (h : ∀ D o vs h' tk', Fr g L h' m → News g L h' ((D, o) :: news) → (∀ p ∈ news, p.1 < D) → ListObj o vs → IntsAre vs [a, b, c, d, e] → Q (.ref D) { s with heap := h', toks := tk' }) :
    wpAny M A (eval (.List [.Constant (.int a) 0 p1, .Constant (.int b) 0 p2, .Constant (.int c) 0 p3, .Constant (.int d) 0 p4, .Constant (.int e) 0 p5] p) env) Q E s := by
  refine List_ (spl (wpAny_Constant_int (spl (wpAny_Constant_int (spl (wpAny_Constant_int (spl (wpAny_Constant_int (spl (wpAny_Constant_int (spl_nil ?_)))))))))))
  refine newList_K F N fun D h' F' N' l' => ?_
  exact h D _ _ h' _ F' N' l' ⟨rfl, _, rfl⟩ (.cons _ _ (.cons _ _ (.cons _ _ (.cons _ _ (.cons _ _ .nil)))))
end

def cmpDeed : Nat → Deed
  | 0 => .lt | 1 => .le | 2 => .eq | 3 => .ne | 4 => .ge | _ => .gt

theorem settled_fn {w : World} {h : Heap} (X : (hd.heap_39 w.params).In h) : ∃ o fd, h.get? 138 = some o ∧ o.data = .func fd := by
  k_dflt (refine' fn_of X ?h; (case h => k_is))

theorem lt_of_news {g h : Heap} {L : Addr} {news : List (Addr × Obj)} (N : News g L h news) : ∀ p ∈ news, p.1 < h.objs.size := fun p hp => Heap.lt_size (N p hp).1

set_option maxHeartbeats 1000000 in
theorem signs_call {w : World} {mean : ExcName → Option Value} {mg mb : Str → Option Value} {base : Heap} {frs : List Env} {A : Around} {s : Shared} {Q E : Value → Shared → Prop} {l : Addr} {lo : Obj} {vs : List Value} {ns : List Int} {x : Int} {t : Tok}
    (G : Ba w mean mg mb base) (B : Below A base frs s.heap) (R : Room A 5) (hlo : s.heap.get? l = some lo) (hl : ListObj lo vs) (hi : IntsAre vs ns) (hn : ns.length ≤ 4) (hb : ∀ n ∈ ns, -1 ≤ n ∧ n ≤ 3)
    (ret : ∀ r ro ws tl h' tk', s.heap.StaysIn h' → (∀ q ∈ tl, h'.get? q.1 = some q.2 ∧ s.heap.get? q.1 = none) → (r, ro) ∈ tl → ListObj ro ws → ws.length ≤ 6 → (∀ v ∈ ws, AskIn (tl ++ [(l, lo)]) v) → Q (.ref r) { s with heap := h', toks := tk' }) :
    wpAny (model PySem.Challenge.rw_mr0096_01.row.prog w) A (call (.ref 143) [.int x t, .ref l]) Q E s := by
  have XB := G.X
  have TB := G.T
  have hl0 : s.heap.IsList l vs.toArray := ⟨lo, hlo, hl⟩
  have hlen := hi.length
  refine wpAny_call ?_
  k_dflt (refine' enterC [("start", .int x t), ("marks", .ref l)] XB TB B ?ho ?hcd R.now ?hbind ?hloc ?hnd ?_ ?c2 ?c3 ?c4; (case ho => k_is); (case hcd => k_is); (case hbind => exact BindsTo.of_eq rfl); (case hloc => exact rfl); (case hnd => decide); (case c2 => exact rfl); (case c3 => exact rfl); (case c4 => exact rfl))
  intro h1 tk1 cells F N Y X T
  have TR := topRead_of T
  obtain ⟨ow, oo, od, om, os, rfl, how, hoo, hod, hom, hos⟩ := kc_five Y
  clear Y
  replace how : ow.data = .cell none := how
  replace hoo : oo.data = .cell none := hoo
  replace hod : od.data = .cell none := hod
  replace hom : om.data = .cell (some (.ref l)) := hom
  replace hos : os.data = .cell (some (.int x t)) := hos
  -- deeds
  refine wpAny_execs_cons (wpAny_Assign_Name (List_ ?_))
  refine spliced_cons (nameX_K (cl := cellsFrom (s.heap.objs.size + 1) _ []) F X TR (by k_is) ?_)
  refine spliced_cons (nameX_K (cl := cellsFrom (s.heap.objs.size + 1) _ []) F X TR (by k_is) ?_)
  refine spliced_cons (nameX_K (cl := cellsFrom (s.heap.objs.size + 1) _ []) F X TR (by k_is) ?_)
  refine spliced_cons (nameX_K (cl := cellsFrom (s.heap.objs.size + 1) _ []) F X TR (by k_is) ?_)
  refine spliced_cons (nameX_K (cl := cellsFrom (s.heap.objs.size + 1) _ []) F X TR (by k_is) ?_)
  refine spliced_cons (nameX_K (cl := cellsFrom (s.heap.objs.size + 1) _ []) F X TR (by k_is) ?_)
  refine spliced_nil (newList_K F N fun Dd h2 F2 N2 l2 => ?_)
  refine storeX_C (cl := cellsFrom (s.heap.objs.size + 1) _ []) F2 N2 rfl (.tail (Nat.ne_of_gt (l2 (_, od) (by k_mem))) (.tail (by show s.heap.objs.size + 1 + 1 + 1 + 1 + 1 ≠ _; omega) (.tail (by show s.heap.objs.size + 1 + 1 + 1 + 1 ≠ _; omega) (.head (fun p hp => ?hne))))) hod (fun h3 od3 F3 N3 hod3 => ?_) rfl rfl
  case hne =>
    rcases List.mem_cons.mp hp with rfl | hp
    · show s.heap.objs.size + 1 + 1 ≠ s.heap.objs.size + 1 + 1 + 1; omega
    · rw [List.mem_singleton.mp hp]; show s.heap.objs.size + 1 ≠ s.heap.objs.size + 1 + 1 + 1; omega
  dsimp only at F3 N3 ⊢
  clear F2 N2 F N
  have hex : ∀ tl : List (Addr × Obj), (l, lo) ∈ tl ++ [(l, lo)] := fun tl => List.mem_append_right _ (List.Mem.head _)
  refine wpAny_execs_cons (wpAny_If (isTrue_not (isTrue_plain (nameX_C (cl := cellsFrom (s.heap.objs.size + 1) _ []) N3 rfl (by k_mem) hom (wpAny_truthy_list (hl0.at fun o e => F3.keep l o e) (by rw [List.size_toArray]; omega) ?_)))))
  cases hi with
  | nil =>
    refine wpAny_execs_cons (wpAny_Return_some (LCg.ListComp_U (F₀ := F3) (cl := [("start", s.heap.objs.size + 1), ("marks", s.heap.objs.size + 1 + 1)]) (by with_unfolding_all rfl) (by decide) rfl (by decide) rfl (nameX_C (cl := cellsFrom (s.heap.objs.size + 1) _ []) N3 rfl (by k_mem) hod3 ?_) (fun _ => rfl)))
    refine LCg.CompSrc.ledger (by exact R.hh) F3 N3 (List.Mem.head _) (by decide) fun g => ?_
    refine rest_asks (n := 6) (news₀ := _) [(l, lo)] (fun news hs => .inr ⟨_, hs _ (List.Mem.head _), rfl, _, rfl⟩) ?_ ?_ 6 0 [] _ rfl rfl (fun _ h => nomatch h) (fun _ h => h)
    · intro i v I oI C oC D ys m₂ h tk E' news Q' hi6 hP hoC hx F5 N5 hs k
      obtain ⟨d, hd, rfl⟩ : ∃ d : Deed, isCmp d = true ∧ v = .ref d.at := by
        rcases (show i = 0 ∨ i = 1 ∨ i = 2 ∨ i = 3 ∨ i = 4 ∨ i = 5 by omega) with rfl | rfl | rfl | rfl | rfl | rfl
        · exact ⟨.lt, rfl, (Option.some.inj hP).symm⟩
        · exact ⟨.le, rfl, (Option.some.inj hP).symm⟩
        · exact ⟨.eq, rfl, (Option.some.inj hP).symm⟩
        · exact ⟨.ne, rfl, (Option.some.inj hP).symm⟩
        · exact ⟨.ge, rfl, (Option.some.inj hP).symm⟩
        · exact ⟨.gt, rfl, (Option.some.inj hP).symm⟩
      have up : ∀ p ∈ news, p ∈ (I, oI) :: (C, oC) :: (D, LCg.lst ys) :: news := fun p hp => List.mem_cons_of_mem _ (List.mem_cons_of_mem _ (List.mem_cons_of_mem _ hp))
      have hms := up _ (hs (_, os) (by k_mem))
      have hmm := up _ (hs (_, om) (by k_mem))
      refine Tuple_ (spliced_cons (LCgL.ld_own N5 (List.Mem.tail _ (List.Mem.head _)) hoC hx (spliced_cons (lcf_cell N5 rfl hms hos (spliced_cons (lcf_cell N5 rfl hmm hom (spliced_cons (lcf_cell N5 rfl hms hos (spliced_nil (newTuple_N F5 N5 fun h6 F6 N6 => ?_)) rfl rfl)) rfl rfl)) rfl rfl))))
      refine k _ _ h6 _ F6 N6 (fun p hp => Nat.ne_of_lt (lt_of_news N5 p hp)) ?_
      exact AskIn.mk' d (List.Mem.head _) ⟨rfl, _, rfl⟩ (hex _) hl .nil (by simp) trivial (.of .i)
    · intro ys news hly ha hs D h tk F6 N6 o6
      refine ret D _ ys ((D, LCg.lst ys) :: news) h tk F6.keep (fun q hq => ⟨(N6 q hq).1, (N6 q hq).2.2⟩) (List.Mem.head _) ⟨rfl, _, rfl⟩ (by omega) (fun v hv => (ha v hv).mono fun p hp => by rw [List.cons_append]; exact List.mem_cons_of_mem _ hp)
  | @cons hd0 ht0 vs' ns' htl =>
    refine wpAny_execs_nil ?_
    refine wpAny_execs_cons (wpAny_Assign_Name (Subscript_ (nameX_C (cl := cellsFrom (s.heap.objs.size + 1) _ []) N3 rfl (by k_mem) hom (wpAny_Constant_int (item_at (v := .int hd0 ht0) (hl0.at fun o e => F3.keep l o e) (by decide) (by decide) rfl ?_ (by with_unfolding_all rfl))))))
    refine storeX_L (cl := cellsFrom (s.heap.objs.size + 1) _ []) F3 N3 fun h4 F4 N4 => ?_
    dsimp only at F4 N4 ⊢
    clear F3 N3
    -- outsets
    refine wpAny_execs_cons (wpAny_Assign_Name (List_ ?_))
    refine spl (wpAny_Compare1 (nameX_C (cl := cellsFrom (s.heap.objs.size + 1) _ []) N4 rfl (by k_mem) hos (nameX_L (cl := cellsFrom (s.heap.objs.size + 1) _ []) F4 (v := .int hd0 ht0) rfl (lt_int ?_))))
    refine spl (wpAny_Compare1 (nameX_C (cl := cellsFrom (s.heap.objs.size + 1) _ []) N4 rfl (by k_mem) hos (nameX_L (cl := cellsFrom (s.heap.objs.size + 1) _ []) F4 (v := .int hd0 ht0) rfl (le_int ?_))))
    refine spl (wpAny_Compare1 (nameX_C (cl := cellsFrom (s.heap.objs.size + 1) _ []) N4 rfl (by k_mem) hos (nameX_L (cl := cellsFrom (s.heap.objs.size + 1) _ []) F4 (v := .int hd0 ht0) rfl (eq_int ?_))))
    refine spl (wpAny_Compare1 (nameX_C (cl := cellsFrom (s.heap.objs.size + 1) _ []) N4 rfl (by k_mem) hos (nameX_L (cl := cellsFrom (s.heap.objs.size + 1) _ []) F4 (v := .int hd0 ht0) rfl (ne_int ?_))))
    refine spl (wpAny_Compare1 (nameX_C (cl := cellsFrom (s.heap.objs.size + 1) _ []) N4 rfl (by k_mem) hos (nameX_L (cl := cellsFrom (s.heap.objs.size + 1) _ []) F4 (v := .int hd0 ht0) rfl (ge_int ?_))))
    refine spl (wpAny_Compare1 (nameX_C (cl := cellsFrom (s.heap.objs.size + 1) _ []) N4 rfl (by k_mem) hos (nameX_L (cl := cellsFrom (s.heap.objs.size + 1) _ []) F4 (v := .int hd0 ht0) rfl (gt_int ?_))))
    refine spl_nil (newList_K F4 N4 fun Do h5 F5 N5 l5 => ?_)
    refine storeX_C (cl := cellsFrom (s.heap.objs.size + 1) _ []) F5 N5 rfl (.tail (Nat.ne_of_gt (l5 (_, oo) (by k_mem))) (.tail (Nat.ne_of_gt (l2 (_, oo) (by k_mem))) (.tail (by show s.heap.objs.size + 1 + 1 + 1 + 1 + 1 ≠ s.heap.objs.size + 1 + 1 + 1 + 1; omega) (.head (fun p hp => ?hne))))) hoo (fun h6 oo6 F6 N6 hoo6 => ?_) rfl rfl
    case hne =>
      rcases List.mem_cons.mp hp with rfl | hp
      · show s.heap.objs.size + 1 + 1 + 1 ≠ s.heap.objs.size + 1 + 1 + 1 + 1; omega
      · rcases List.mem_cons.mp hp with rfl | hp
        · show s.heap.objs.size + 1 + 1 ≠ s.heap.objs.size + 1 + 1 + 1 + 1; omega
        · rw [List.mem_singleton.mp hp]; show s.heap.objs.size + 1 ≠ s.heap.objs.size + 1 + 1 + 1 + 1; omega
    dsimp only at F6 N6 ⊢
    clear F4 N4 F5 N5
    -- ways
    refine wpAny_execs_cons ?_
    refine wpAny_Assign_Name ?hA ?hB
    case hB => with_unfolding_all rfl
    refine List_ ?_
    refine spl ?_
    refine' row5 (g := s.heap) (L := s.heap.objs.size) ?aF0 ?aN0 ?aH0
    case aF0 => exact F6
    case aN0 => exact N6
    intro w0 wo0 wv0 h7 tk7 F7 N7 l7 wl0 wi0
    dsimp only
    refine spl ?_
    refine' row5 (g := s.heap) (L := s.heap.objs.size) ?aF1 ?aN1 ?aH1
    case aF1 => exact F7
    case aN1 => exact N7
    intro w1 wo1 wv1 h8 tk8 F8 N8 l8 wl1 wi1
    dsimp only
    refine spl ?_
    refine' row5 (g := s.heap) (L := s.heap.objs.size) ?aF2 ?aN2 ?aH2
    case aF2 => exact F8
    case aN2 => exact N8
    intro w2 wo2 wv2 h9 tk9 F9 N9 l9 wl2 wi2
    dsimp only
    refine spl ?_
    refine' row5 (g := s.heap) (L := s.heap.objs.size) ?aF3 ?aN3 ?aH3
    case aF3 => exact F9
    case aN3 => exact N9
    intro w3 wo3 wv3 h10 tk10 F10 N10 l10 wl3 wi3
    dsimp only
    refine spl ?_
    refine' row5 (g := s.heap) (L := s.heap.objs.size) ?aF4 ?aN4 ?aH4
    case aF4 => exact F10
    case aN4 => exact N10
    intro w4 wo4 wv4 h11 tk11 F11 N11 l11 wl4 wi4
    dsimp only
    refine spl ?_
    refine' row5 (g := s.heap) (L := s.heap.objs.size) ?aF5 ?aN5 ?aH5
    case aF5 => exact F11
    case aN5 => exact N11
    intro w5 wo5 wv5 h12 tk12 F12 N12 l12 wl5 wi5
    dsimp only
    clear F6 N6 F7 N7 F8 N8 F9 N9 F10 N10 F11 N11
    refine spl_nil (newList_K F12 N12 fun Dw h13 F13 N13 l13 => ?_)
    refine storeX_C (cl := cellsFrom (s.heap.objs.size + 1) _ []) F13 N13 rfl (.tail (Nat.ne_of_gt (l13 (_, ow) (by k_mem))) (.tail (Nat.ne_of_gt (l12 (_, ow) (by k_mem))) (.tail (Nat.ne_of_gt (l11 (_, ow) (by k_mem))) (.tail (Nat.ne_of_gt (l10 (_, ow) (by k_mem))) (.tail (Nat.ne_of_gt (l9 (_, ow) (by k_mem))) (.tail (Nat.ne_of_gt (l8 (_, ow) (by k_mem))) (.tail (Nat.ne_of_gt (l7 (_, ow) (by k_mem)))
      (.tail (Nat.ne_of_gt (l5 (_, ow) (by k_mem))) (.tail (Nat.ne_of_gt (l2 (_, ow) (by k_mem))) (.head (fun p hp => ?hne))))))))))) how (fun h14 ow14 F14 N14 how14 => ?_) rfl rfl
    case hne =>
      rcases List.mem_cons.mp hp with rfl | hp
      · show s.heap.objs.size + 1 + 1 + 1 + 1 ≠ s.heap.objs.size + 1 + 1 + 1 + 1 + 1; omega
      · rcases List.mem_cons.mp hp with rfl | hp
        · show s.heap.objs.size + 1 + 1 + 1 ≠ s.heap.objs.size + 1 + 1 + 1 + 1 + 1; omega
        · rcases List.mem_cons.mp hp with rfl | hp
          · show s.heap.objs.size + 1 + 1 ≠ s.heap.objs.size + 1 + 1 + 1 + 1 + 1; omega
          · rw [List.mem_singleton.mp hp]; show s.heap.objs.size + 1 ≠ s.heap.objs.size + 1 + 1 + 1 + 1 + 1; omega
    dsimp only at F14 N14 ⊢
    clear F12 N12 F13 N13
    refine wpAny_execs_cons (wpAny_Return_some ?_)
    refine LCg.ListComp_U (F₀ := F14) (cl := [("ways", s.heap.objs.size + 1 + 1 + 1 + 1 + 1), ("start", s.heap.objs.size + 1), ("outsets", s.heap.objs.size + 1 + 1 + 1 + 1), ("marks", s.heap.objs.size + 1 + 1), ("deeds", s.heap.objs.size + 1 + 1 + 1)]) (by with_unfolding_all rfl) (by decide) rfl (by decide) rfl ?_ (fun _ => rfl)
    refine Call_Name rfl (nameX_B (cl := cellsFrom (s.heap.objs.size + 1) _ []) F14 X TR (by k_is) (by boot_by_name) (by decide) ?_)
    refine PyProof.Rows.callWith_type rfl (evalArgs_plain (spliced_cons (wpAny_Constant_int (k := 0) (pos := ⟨0, 0, 0, 0⟩) (spliced_nil ?_))))
    refine range1_rows F14 N14 fun h15 tk15 u1 u2 u3 hr15 F15 N15 k15 => ?_
    dsimp only
    refine LCg.CompSrc.range (n := 6) (by exact R.hh) F15 N15 hr15 (by decide) (by decide) (by decide) fun g => ?_
    have hrow : ∀ i, i < 6 → ∃ d wa wo wvs, isCmp d = true ∧ [Value.ref 30, .ref 37, .ref 44, .ref 51, .ref 58, .ref 65][i]? = some (.ref d.at) ∧ [Value.ref w0, .ref w1, .ref w2, .ref w3, .ref w4, .ref w5][i]? = some (.ref wa) ∧
        (wa, wo) ∈ [(w5, wo5), (w4, wo4), (w3, wo3), (w2, wo2), (w1, wo1), (w0, wo0)] ∧ ListObj wo wvs ∧ IntsAre wvs (table d) ∧
        [Value.bool (decide (x < hd0)), .bool (decide (x ≤ hd0)), .bool (x == hd0), .bool (x != hd0), .bool (decide (hd0 ≤ x)), .bool (decide (hd0 < x))][i]? = some (.bool (outsetOf d x hd0)) := by
      intro i hi6
      rcases (show i = 0 ∨ i = 1 ∨ i = 2 ∨ i = 3 ∨ i = 4 ∨ i = 5 by omega) with rfl | rfl | rfl | rfl | rfl | rfl
      · exact ⟨.lt, w0, wo0, wv0, rfl, rfl, rfl, by k_mem, wl0, wi0, rfl⟩
      · exact ⟨.le, w1, wo1, wv1, rfl, rfl, rfl, by k_mem, wl1, wi1, rfl⟩
      · exact ⟨.eq, w2, wo2, wv2, rfl, rfl, rfl, by k_mem, wl2, wi2, rfl⟩
      · exact ⟨.ne, w3, wo3, wv3, rfl, rfl, rfl, by k_mem, wl3, wi3, rfl⟩
      · exact ⟨.ge, w4, wo4, wv4, rfl, rfl, rfl, by k_mem, wl4, wi4, rfl⟩
      · exact ⟨.gt, w5, wo5, wv5, rfl, rfl, rfl, by k_mem, wl5, wi5, rfl⟩
    have hwmem : ∀ p, p ∈ [(w5, wo5), (w4, wo4), (w3, wo3), (w2, wo2), (w1, wo1), (w0, wo0)] → p ∈ [(Dw, listOf #[Value.ref w0, .ref w1, .ref w2, .ref w3, .ref w4, .ref w5] 0), (w5, wo5), (w4, wo4), (w3, wo3), (w2, wo2), (w1, wo1), (w0, wo0),
        (Do, listOf #[Value.bool (decide (x < hd0)), .bool (decide (x ≤ hd0)), .bool (x == hd0), .bool (x != hd0), .bool (decide (hd0 ≤ x)), .bool (decide (hd0 < x))] 0),
        (Dd, listOf #[Value.ref 30, .ref 37, .ref 44, .ref 51, .ref 58, .ref 65] 0), (s.heap.objs.size + 1 + 1 + 1 + 1 + 1, ow14), (s.heap.objs.size + 1 + 1 + 1 + 1, oo6), (s.heap.objs.size + 1 + 1 + 1, od3), (s.heap.objs.size + 1 + 1, om), (s.heap.objs.size + 1, os)] := fun p hp => by
      rw [List.mem_cons]
      exact .inr (List.mem_append_left _ hp)
    refine rest_asks (n := 6) (news₀ := _) [(l, lo)] (fun news hs => trivial) ?_ ?_ 6 0 [] _ rfl rfl (fun _ h => nomatch h) (fun _ h => h)
    · intro i v I oI C oC D ys m₂ h tk E' news Q' hi6 hP hoC hx F5 N5 hs k
      obtain ⟨tv, rfl⟩ := hP
      obtain ⟨d, wa, wo, wvs, hd, e1, e2, e3, e4, e5, e6⟩ := hrow i hi6
      have up : ∀ p ∈ news, p ∈ (I, oI) :: (C, oC) :: (D, LCg.lst ys) :: news := fun p hp => List.mem_cons_of_mem _ (List.mem_cons_of_mem _ (List.mem_cons_of_mem _ hp))
      have hms := up _ (hs (_, os) (by k_mem))
      have hmm := up _ (hs (_, om) (by k_mem))
      have hmd := up _ (hs (_, od3) (by k_mem))
      have hmo := up _ (hs (_, oo6) (by k_mem))
      have hmw := up _ (hs (_, ow14) (by k_mem))
      have hDd := (N5 _ (up _ (hs (Dd, _) (by k_mem)))).1
      have hDo := (N5 _ (up _ (hs (Do, _) (by k_mem)))).1
      have hDw := (N5 _ (up _ (hs (Dw, _) (by k_mem)))).1
      have hWa := (N5 _ (up _ (hs _ (hwmem _ e3)))).1
      have hidx : (0 + (i : Int)).toNat = i := by omega
      refine Tuple_ (spl (Subscript_ (lcf_cell N5 rfl hmd hod3 (LCgL.ld_own N5 (List.Mem.tail _ (List.Mem.head _)) hoC hx (item_at (v := .ref d.at) (vs := [Value.ref 30, .ref 37, .ref 44, .ref 51, .ref 58, .ref 65]) ⟨_, hDd, rfl, _, rfl⟩ (by omega) (by omega) (by rw [hidx]; exact e1) ?_ (by with_unfolding_all rfl))) rfl rfl)))
      refine spl (lcf_cell N5 rfl hms hos ?_ rfl rfl)
      refine spl (lcf_cell N5 rfl hmm hom ?_ rfl rfl)
      obtain ⟨fo, ffd, hfo, hffd⟩ := settled_fn (X.keeps F5.keep)
      refine spl (Call_Name rfl (LCgL.ld_global F5 X T (by k_is) (callWith_function (o := fo) (fd := ffd) (evalArgs_plain ?_))))
      refine spliced_cons (Subscript_ (lcf_cell N5 rfl hmw how14 (LCgL.ld_own N5 (List.Mem.tail _ (List.Mem.head _)) hoC hx (item_at (v := .ref wa) (vs := [Value.ref w0, .ref w1, .ref w2, .ref w3, .ref w4, .ref w5]) ⟨_, hDw, rfl, _, rfl⟩ (by omega) (by omega) (by rw [hidx]; exact e2) ?_ (by with_unfolding_all rfl))) rfl rfl))
      refine spliced_cons (Subscript_ (lcf_cell N5 rfl hmo hoo6 (LCgL.ld_own N5 (List.Mem.tail _ (List.Mem.head _)) hoC hx (item_at (v := .bool (outsetOf d x hd0)) (vs := [Value.bool (decide (x < hd0)), .bool (decide (x ≤ hd0)), .bool (x == hd0), .bool (x != hd0), .bool (decide (hd0 ≤ x)), .bool (decide (hd0 < x))]) ⟨_, hDo, rfl, _, rfl⟩ (by omega) (by omega) (by rw [hidx]; exact e6) ?_ (by with_unfolding_all rfl))) rfl rfl))
      refine spliced_cons (lcf_cell N5 rfl hmm hom (spliced_nil ⟨⟨hfo, hffd⟩, ?_⟩) rfl rfl)
      have hlaw := law_cmp hd x hd0 ns' fun mk hm => hb mk (List.mem_cons_of_mem _ hm)
      refine settled_call G (pushX B F5 rfl rfl) (R.less (show 2 ≤ 5 by decide)).deeper ⟨wo, hWa, e4.1, e4.2⟩ e5 (by cases d <;> first | rfl | exact Bool.noConfusion hd) (hl0.at fun o e => F5.keep l o e) htl (by simp only [List.length_cons] at hn; omega) (fun mk hm => hb mk (List.mem_cons_of_mem _ hm)) fun h6 tk6 st6 => ?_
      have F6 := Fr.after F5 st6
      have N6 : News s.heap s.heap.objs.size h6 _ := fun q hq => ⟨st6 _ _ (N5 q hq).1, (N5 q hq).2⟩
      refine spl_nil (newTuple_N F6 N6 fun h7 F7 N7 => ?_)
      refine k _ _ h7 _ F7 N7 (fun p hp => Nat.ne_of_lt (lt_of_news N6 p hp)) ?_
      exact AskIn.mk' d (List.Mem.head _) ⟨rfl, _, rfl⟩ (hex _) hl (.cons hd0 ht0 htl) (by omega) hlaw.1 (by rw [hlaw.2]; exact .of .b)
    · intro ys news hly ha hs D h tk F6 N6 o6
      refine ret D _ ys ((D, LCg.lst ys) :: news) h tk F6.keep (fun q hq => ⟨(N6 q hq).1, (N6 q hq).2.2⟩) (List.Mem.head _) ⟨rfl, _, rfl⟩ (by omega) (fun v hv => (ha v hv).mono fun p hp => by rw [List.cons_append]; exact List.mem_cons_of_mem _ hp)
end Mine
end

/- B4 -/
section
open PySem PySem.W PySem.Spec PySem.Calls PyProof.Rows
set_option Elab.async false
set_option maxRecDepth 100000
namespace Mine

theorem fillNowB4 (w : World) (base : Heap) : PySem.Challenge.rw_mr0096_01.name = PySem.Challenge.rw_mr0096_01.name ∨ (hd.heap_39 w.params).In base := by
  k_fill
  exact Or.inl rfl

theorem list_iaddW (l b : Addr) (items items2 : Array Value) (n n2 : Nat) (dd dd2 : Option Addr) (sl sl2 : Array (Option Value)) (hs0 : ¬(!items.isEmpty && Builtin.List.listTooLong (items.size + items2.size)) = true) (hs1 : items.size ≤ sizeLine) (hs2 : items.size + items2.size ≤ sizeLine + 1) :
    Meets (Builtin.«list.__iadd__» ⟨[.ref l, .ref b], []⟩) (fun _ R s => s.heap.get? l = some { cls := .type "list", dict := dd, data := .seq items n, slots := sl } ∧ s.heap.get? b = some { cls := .type "list", dict := dd2, data := .seq items2 n2, slots := sl2 } ∧ R (.ok (.ret (Value.ref l))) { s with heap := s.heap.update l (Obj.mapSeq fun x => x ++ items2), toks := s.toks }) :=
  .of_wp fun prog w A R s h => by
    obtain ⟨hp, g, d, tk, os⟩ := s; obtain ⟨hl, hb, h⟩ := h; have f1 := AutoSeq1.idx_int; have f2 := AutoSeq1.sub_tuple_tuple; have f3 := AutoSeq1.sub_list_list; have f4 := AutoSeq1.sub_tuple_list; have f5 := AutoSeq1.sub_list_tuple
    have hz' : (items ++ items2).size ≤ sizeLine + 1 := by rw [Array.size_append]; exact hs2
    wp_walk using (wpAny_updateSeq hl rfl (hz := hs1) (_hz' := hz')), wpAny_loadPart' hl, wpAny_loadPart' hb; exact ⟨_, rfl, h⟩

section
variable {prog : Program} {w : World} {A : Around} {E : Value → Shared → Prop} {s : Shared} {g : Heap} {L : Addr} {m : Str → Option Value} {news : List (Addr × Obj)}

theorem inplace_seq {T id : String} {a b : Value} {Q : Value → Shared → Prop} (ha : s.TypeIs a T) (hb : s.TypeIs b T)
    (hi : typeLookup (.type T) (dunderI "add") = pure (some (.builtin id))) (hs : isSeqSlot (some (.builtin id)) = true) (hfill : fillsNumberSlot (.type T) "add" = pure false)
    (hc : wpAny (model prog w) A (call (.builtin id) [a, b]) Q E s) : wpAny (model prog w) A (inplaceOp .Add a b) Q E s := by
  unfold inplaceOp
  refine wpAny_holding ?_
  have hfi : fillsInplaceSlot (.type T) "add" (Operator.Add == .Add) = pure false := by
    unfold fillsInplaceSlot
    show (typeLookup (.type T) (dunderI "add") >>= fun fi => pure (fi.isSome && !isSeqSlot fi)) = pure false
    rw [hi, pure_bind, hs]; rfl
  refine wpAny_bind (wpAny_typeOf ha (wpAny_bind (wpAny_of_eq hfi ?_)))
  show wpAny (model prog w) A (if false = true then _ else _) Q E s
  rw [if_neg Bool.false_ne_true]
  refine wpAny_bind (PyProof.Rows.binaryOp1_none (nm := "add") ha hb hfill ?_)
  refine wpAny_bind (wpAny_of_eq (PyProof.Rows.seqSlot_of hi hs) ?_)
  exact wpAny_bind (wpAny_rule hc)

theorem iadd_lists {l b : Addr} {lo : Obj} {vs ws : List Value} {Q : Value → Shared → Prop} (F : Fr g L s.heap m) (N : News g L s.heap ((l, lo) :: news)) (hne : ∀ p ∈ news, p.1 ≠ l) (hl : ListObj lo vs) (hb : s.heap.IsList b ws.toArray)
    (h : ∀ h' lo', Fr g L h' m → News g L h' ((l, lo') :: news) → ListObj lo' (vs ++ ws) → Q (.ref l) { s with heap := h' }) (hsz : vs.length + ws.length ≤ 1000) :
    wpAny (model prog w) A (inplaceOp .Add (.ref l) (.ref b)) Q E s := by
  have nl := N _ (List.Mem.head _)
  obtain ⟨⟨cls2, dd2, data2, sl2⟩, ho2, hc2, n2, hd2⟩ := id hb
  obtain ⟨cls, dd, data, sl⟩ := lo
  obtain ⟨hc, n, hd⟩ := id hl
  simp only at hc hd hc2 hd2
  subst hc hd hc2 hd2
  refine inplace_seq ⟨_, nl.1, rfl⟩ ⟨_, ho2, rfl⟩ PySem.F.slot_list_iadd.lookup (by decide +kernel) noFill_list_add ?_
  refine call_meets PySem.F.slot_list_iadd ⟨_, nl.1, rfl⟩ PySem.F.entry_list_iadd (PySem.F.args_list_iadd_2 _ _) (list_iaddW l b vs.toArray ws.toArray n n2 dd dd2 sl sl2 ?_ ?_ ?_) ⟨nl.1, ho2, ?_⟩
  · exact extend_door (by simp [sizeLine_eq]; omega)
  · simp [sizeLine_eq]; omega
  · simp [sizeLine_eq]; omega
  have hsb := Heap.SameBut.update s.heap l (Obj.mapSeq fun x => x ++ ws.toArray)
  obtain ⟨n', hd'⟩ := Obj.data_mapSeq (o := { cls := .type "list", dict := dd, data := .seq vs.toArray n, slots := sl }) rfl (fun x => x ++ ws.toArray)
  have hg := Heap.get?_update_self (Obj.mapSeq fun x => x ++ ws.toArray) nl.1 (by rfl)
  refine h _ _ (F.change hsb nl.2.1 nl.2.2) (fun q hq => ?_) ⟨Obj.cls_mapSeq _ _, n', by rw [hd']; simp⟩
  rcases List.mem_cons.mp hq with rfl | hq
  · exact ⟨hg, nl.2⟩
  · exact ⟨(hsb.2 _ (hne q hq)).trans (N q (List.mem_cons_of_mem _ hq)).1, (N q (List.mem_cons_of_mem _ hq)).2⟩

theorem letGo_listiter {target : Expr} {I t : Addr} {i : Nat} {v : Value} {Q' : Unit → Shared → Prop} {s' : Shared} (hit : s'.heap.IsListIter I t i) (h : Q' () s') :
    wpAny (model prog w) A (letOwnedTupleGo target (.ref I) v) Q' E s' := by
  obtain ⟨o, ho, hc, hd⟩ := hit
  unfold letOwnedTupleGo
  cases target <;> first
    | exact wpAny_pure h
    | (cases v <;> first
        | exact wpAny_pure h
        | (refine wpAny_bind (wpAny_load ho ?_)
           rw [hc, hd]
           exact wpAny_pure h))

theorem elt_modsub {C : Addr} {env : Env} {scope : Scope} {m : Str → Option Value} {n : Int} {t : Tok} {p1 p2 p3 p4 p5 : Pos} {k k' : Nat} {c e : Int} (hc : c ≠ 0) {x : Str} (hn : s.heap.Ns C m) (hm : m x = some (.int n t)) (hk : scope.kind = .function) (hl : (compEnv scope C env).kindOf x = some .local) (hd : (x == ("__debug__" : Str)) = false) :
    wpAny (model prog w) A (eval (.BinOp (.BinOp (.Name x p1) .Mod (.Constant (.int c) k p2) p3) .Sub (.Constant (.int e) k' p4) p5) (compEnv scope C env)) (fun r s₃ => (∃ u, r = .int (n.fmod c - e) u) ∧ Keeps s s₃) E s :=
  wpAny_BinOp (wpAny_BinOp (wpAny_Name (wpAny_loadName_local hk hl hn hm (wpAny_Constant_int (mod_int hc (wpAny_Constant_int (sub_int ⟨⟨_, rfl⟩, keeps_toks⟩))))) hd))
end

theorem holds_fn {w : World} {h : Heap} (X : (hd.heap_39 w.params).In h) : ∃ o fd, h.get? 121 = some o ∧ o.data = .func fd := by
  k_dflt (refine' fn_of X ?h; (case h => k_is))
theorem sums_fn {w : World} {h : Heap} (X : (hd.heap_39 w.params).In h) : ∃ o fd, h.get? 126 = some o ∧ o.data = .func fd := by
  k_dflt (refine' fn_of X ?h; (case h => k_is))
theorem left_fn {w : World} {h : Heap} (X : (hd.heap_39 w.params).In h) : ∃ o fd, h.get? 131 = some o ∧ o.data = .func fd := by
  k_dflt (refine' fn_of X ?h; (case h => k_is))
theorem signs_fn {w : World} {h : Heap} (X : (hd.heap_39 w.params).In h) : ∃ o fd, h.get? 143 = some o ∧ o.data = .func fd := by
  k_dflt (refine' fn_of X ?h; (case h => k_is))

set_option maxHeartbeats 1000000 in
theorem asks_for {w : World} {mean : ExcName → Option Value} {mg mb : Str → Option Value} {base g : Heap} {frs : List Env} {A : Around} {s : Shared} {Q : Flow → Shared → Prop} {E : Value → Shared → Prop}
    {name : Str} {scope : Scope} {L f r : Addr} {cd : Value} {m : Str → Option Value} {led : List (Addr × Obj)} {ro : Obj} {ws : List Value} {kt : Nat} {bd : List Stmt} {p1 p2 p3 p4 p5 p6 p7 p8 p9 p10 p11 p12 p13 p16 p17 : Pos}
    (G : Ba w mean mg mb base) (B : Below A base frs g) (R : Room A 6) (F : Fr g L s.heap m) (N : News g L s.heap led) (hr : (r, ro) ∈ led) (hro : ListObj ro ws) (ha : ∀ v ∈ ws, AskIn led v) (ma : m "asks" = some (.ref r))
    (done : ∀ g' h' m' tk', KtsTurn (frs.filterMap (·.frame)) g g' → Below A base frs g' → Fr g' L h' m' → News g' L h' led → m' "start" = m "start" → m' "pieces" = m "pieces" → m' "marks" = m "marks" → Q .next { s with heap := h', toks := tk' })
    (hk : scope.kind = .function) (k1 : (envOf name scope L f cd).kindOf "deed" = some .local) (k2 : (envOf name scope L f cd).kindOf "first" = some .local) (k3 : (envOf name scope L f cd).kindOf "others" = some .local) (k4 : (envOf name scope L f cd).kindOf "due" = some .local)
    (k5 : (envOf name scope L f cd).kindOf "asks" = some .local) (k6 : (envOf name scope L f cd).kindOf "_law_holds" = some .globalImplicit) :
    wpAny (model PySem.Challenge.rw_mr0096_01.row.prog w) (A.deeper (envOf name scope L f cd))
      (exec (.For (.Tuple [.Name "deed" p1, .Name "first" p2, .Name "others" p3, .Name "due" p4] kt p5) (.Name "asks" p6)
        [.If (.UnaryOp .Not (.Call (.Name "_law_holds" p7) [.Name "deed" p8, .Name "first" p9, .Name "others" p10, .Name "due" p11] [] p12) p13) bd [] p16] [] p17) (envOf name scope L f cd)) Q E s := by
  have XB := G.X
  have TB := G.T
  refine wpAny_For (ld F ma (wpAny_pyIter_list (hro.is N hr) ?_) hk k5)
  have hIne : ∀ p ∈ led, p.1 ≠ s.heap.objs.size := fun p hp => Nat.ne_of_lt (lt_of_news N p hp)
  have F0 := F.push { cls := .type "list_iterator", data := .fields #[.ref r, .int 0 0] }
  have N0 := N.push F { cls := .type "list_iterator", data := .fields #[.ref r, .int 0 0] }
  refine codeAny_forLoop_any (fun n s' => ∃ (k' : Nat) (h' : Heap) (tk' : Nat) (m' : Str → Option Value) (g' : Heap) (o' : Obj), n = ws.length - k' ∧ k' ≤ ws.length ∧ s' = { s with heap := h', toks := tk' } ∧ KtsTurn (frs.filterMap (·.frame)) g g' ∧ Below A base frs g' ∧ Fr g' L h' m' ∧
      News g' L h' ((s.heap.objs.size, o') :: led) ∧ IterObj o' r k' ∧ m' "start" = m "start" ∧ m' "pieces" = m "pieces" ∧ m' "marks" = m "marks") ?_ ws.length
    ⟨0, _, s.toks, m, g, _, rfl, Nat.zero_le _, rfl, .refl, B, F0, N0, ⟨rfl, rfl⟩, rfl, rfl, rfl⟩
  rintro n _ ⟨k', h', tk', m', g', o', rfl, hk', rfl, T', B', F', N', hI', e1, e2, e3⟩
  have nI := N' _ (List.Mem.head _)
  have hit : h'.IsListIter s.heap.objs.size r k' := ⟨o', nI.1, hI'.1, hI'.2⟩
  have hls : h'.IsList r ws.toArray := hro.is N' (List.mem_cons_of_mem _ hr)
  rcases Nat.lt_or_ge k' ws.length with hlt | hge
  · obtain ⟨b, o, d, x, t, l, lo, due, vs, ns, hv, hb, htup, hlm, hlo, hi, hn, hf, htold⟩ := ha ws[k'] (List.getElem_mem hlt)
    refine wpAny_pyNext_list_item hit hls (x := .ref b) (by simpa [hlt] using hv) fun h2 hit2 hs2 => ?_
    dsimp only
    refine letGo_listiter hit2 ?_
    obtain ⟨o2, ho2, hc2, hd2⟩ := hit2
    have F2 : Fr g' L h2 m' := F'.change hs2 nI.2.1 nI.2.2
    have N2 : News g' L h2 ((s.heap.objs.size, o2) :: led) := fun q hq => by
      rcases List.mem_cons.mp hq with rfl | hq
      · exact ⟨ho2, nI.2⟩
      · exact ⟨(hs2.2 _ (hIne q hq)).trans (N' q (List.mem_cons_of_mem _ hq)).1, (N' q (List.mem_cons_of_mem _ hq)).2⟩
    refine unpackN_ F2 N2 (items := [Value.ref d.at, .int x t, .ref l, due].toArray) ⟨o, (N2 _ (List.mem_cons_of_mem _ hb)).1, htup.1, htup.2⟩ (by exact R.hh) rfl rfl fun h3 F3 N3 => ?_
    refine assignInOrder_cons (wpAny_assign_Name (stN F3 N3 (fun h4 F4 N4 => ?_) hk k1))
    refine assignInOrder_cons (wpAny_assign_Name (stN F4 N4 (fun h5 F5 N5 => ?_) hk k2))
    refine assignInOrder_cons (wpAny_assign_Name (stN F5 N5 (fun h6 F6 N6 => ?_) hk k3))
    refine assignInOrder_cons (wpAny_assign_Name (stN F6 N6 (fun h7 F7 N7 => ?_) hk k4))
    refine assignInOrder_nil ?_
    dsimp only at F7 N7 ⊢
    clear F3 N3 F4 N4 F5 N5 F6 N6
    have X7 : (hd.heap_39 w.params).In g' := XB.keeps B'.stays
    have TR7 := topRead_of (TB.keeps B'.stays)
    obtain ⟨fo, ffd, hfo, hffd⟩ := holds_fn (X7.keeps F7.keep)
    have nl := N7 _ (List.mem_cons_of_mem _ hlm)
    refine wpAny_execs_cons (wpAny_If (isTrue_not (isTrue_plain (Call_Name rfl (name_K F7 X7 TR7 (by k_is) ?_ hk k6)))))
    refine callWith_function (o := fo) (fd := ffd) (evalArgs_plain (spliced_cons (ld F7 (v := .ref d.at) rfl (spliced_cons (ld F7 (v := .int x t) rfl (spliced_cons (ld F7 (v := .ref l) rfl (spliced_cons (ld F7 (v := due) rfl (spliced_nil ⟨⟨hfo, hffd⟩, ?_⟩) hk k4)) hk k3)) hk k2)) hk k1)))
    refine holds_call d G (pushX B' F7 (env := envOf name scope L f cd) rfl hk) R.deeper ⟨lo, nl.1, hlo.1, hlo.2⟩ hi hn hf htold (fun hm => ?_) fun h8 tk8 a8 => ?_
    · rcases kts_mem hm with z | z
      · exact nl.2.1 z
      · obtain ⟨_, o9, ho9, _⟩ := B'.frames.mem z
        rw [nl.2.2] at ho9; cases ho9
    obtain ⟨g8, T8, F8, B8, N8⟩ := turned B' F7 a8
    refine wpAny_truthy_bool ?_
    rw [if_neg (by decide)]
    refine wpAny_execs_nil (wpAny_execs_nil ?_)
    exact ⟨ws.length - (k' + 1), by omega, k' + 1, h8, tk8, _, g8, o2, rfl, hlt, rfl, T'.trans T8, B8, F8, N8 _ N7, ⟨hc2, hd2⟩, e1, e2, e3⟩
  · refine wpAny_pyNext_list_end (by exact R.hh) hit hls (by simp; omega) fun h2 hs2 => ?_
    have F2 := Fr.ext F' hs2 nI.2.1 nI.2.2
    refine wpAny_execs_nil (done g' h2 m' tk' T' B' F2 (fun q hq => ?_) e1 e2 e3)
    exact ⟨hs2 _ _ (hIne q hq) (N' q (List.mem_cons_of_mem _ hq)).1, (N' q (List.mem_cons_of_mem _ hq)).2⟩

end Mine
end

/- B5 -/
section
open PySem PySem.W PySem.Spec PySem.Calls PyProof.Rows
set_option Elab.async false
set_option maxRecDepth 100000
namespace Mine

theorem fillNowB5 (w : World) (base : Heap) : PySem.Challenge.rw_mr0096_01.name = PySem.Challenge.rw_mr0096_01.name ∨ (hd.heap_39 w.params).In base := by
  k_fill
  exact Or.inl rfl

theorem news_grow {g h h' : Heap} {L : Addr} {m : Str → Option Value} {news tl : List (Addr × Obj)} (F : Fr g L h m) (N : News g L h news) (st : h.StaysIn h') (new : ∀ q ∈ tl, h'.get? q.1 = some q.2 ∧ h.get? q.1 = none) : News g L h' (tl ++ news) := by
  intro q hq
  rcases List.mem_append.mp hq with hq | hq
  · refine ⟨(new q hq).1, fun e => ?_, ?_⟩
    · obtain ⟨o, es, ep, ho, _⟩ := F.ns
      rw [← e, (new q hq).2] at ho; cases ho
    · cases hg : g.get? q.1 with
      | none => rfl
      | some o => have := F.keep _ _ hg; rw [(new q hq).2] at this; cases this
  · exact ⟨st _ _ (N q hq).1, (N q hq).2⟩

section
variable {prog : Program} {w : World} {A : Around} {E : Value → Shared → Prop} {s : Shared} {g : Heap} {L f D : Addr} {m : Str → Option Value} {name : Str} {scope : Scope} {cd : Value} {news : List (Addr × Obj)} {vs : List Value} {ns : List Int} {k : Int} {t : Tok} {Q : Value → Shared → Prop} {x y : Str}
  {p1 p2 p3 p4 : Pos}
theorem upto_ints (F : Fr g L s.heap m) (N : News g L s.heap news) (mx : m x = some (.ref D)) (my : m y = some (.int k t)) (hl : s.heap.IsList D vs.toArray) (hi : IntsAre vs ns) (hn : ns.length ≤ 1000) (h0 : 0 ≤ k)
    (h : ∀ D' ws h', Fr g L h' m → News g L h' ((D', listOf (List.toArray ws) 0) :: news) → (∀ p ∈ news, p.1 < D') → IntsAre ws (ns.take k.toNat) → Q (.ref D') { s with heap := h' })
    (hk : scope.kind = .function) (kx : (envOf name scope L f cd).kindOf x = some .local) (ky : (envOf name scope L f cd).kindOf y = some .local) (hx : (x == ("__debug__" : Str)) = false) (hy : (y == ("__debug__" : Str)) = false) :
    wpAny (model prog w) A (eval (.Subscript (.Name x p1) (.Slice none (some (.Name y p2)) none p3) p4) (envOf name scope L f cd)) Q E s := by
  refine Subscript_ (ld F mx (wpAny_Slice (evalPart_none_step (evalPart_some_step (ld F my (evalPart_none_step ?_) hk ky hy)))) hk kx hx)
  refine kmk_slice_ints F N hl ?pl ?pu hi (kmk_upto hi h0) rfl (fun D' ws h' F' N' l1 i1 _ _ => h D' ws h' F' N' l1 i1) ?hs ?ht ?hz
  case pl => kmk_part
  case pu => kmk_part
  case hs => with_unfolding_all rfl
  case ht => intro r; rfl
  case hz => rw [List.size_toArray, hi.length, sizeLine_eq]; omega
end

def rangeIt (k n : Nat) : Obj := { cls := .type "range_iterator", dict := none, data := .fields #[rawInt k, rawInt ((n : Int) - k), rawInt 1], slots := #[] }

set_option maxHeartbeats 1000000 in
theorem agree_call {w : World} {mean : ExcName → Option Value} {mg mb : Str → Option Value} {base : Heap} {frs : List Env} {A : Around} {s : Shared} {Q E : Value → Shared → Prop} {l : Addr} {vs : List Value} {ns : List Int} {x : Int} {t : Tok}
    (G : Ba w mean mg mb base) (B : Below A base frs s.heap) (R : Room A 6) (hl : s.heap.IsList l vs.toArray) (hi : IntsAre vs ns) (hn : ns.length ≤ 4) (hx : -1000001 ≤ x ∧ x ≤ 1000001)
    (ret : ∀ h' tk', After frs s.heap h' → Q (.bool true) { s with heap := h', toks := tk' }) :
    wpAny (model PySem.Challenge.rw_mr0096_01.row.prog w) A (call (.ref 148) [.int x t, .ref l]) Q E s := by
  have XB := G.X
  have TB := G.T
  refine wpAny_call ?_
  k_dflt (refine' enter [("start", .int x t), ("cells", .ref l)] XB TB B ?ho ?hcd R.now ?hbind ?hloc ?_ ?c2 ?c3 ?c4 ?c5; (case ho => k_is); (case hcd => k_is); (case hbind => exact BindsTo.of_eq rfl); (case hloc => exact locs rfl); (case c2 => exact rfl); (case c3 => exact rfl); (case c4 => exact rfl); (case c5 => decide))
  intro h1 F N X T
  have TR := topRead_of T
  have hvl : vs.length = ns.length := hi.length
  refine wpAny_execs_cons (comp_intsA (f := fun n => n.fmod 7) (by exact R.hh) F N (y := "cells") rfl (hl.at fun o e => F.keep l o e) hi (by omega) (fun C n t s₂ m₂ E' _ hns hm => elt_mod (by decide) hns hm rfl rfl (by decide)) (fun Dp op ps h2 tk2 F2 N2 lp ip => ?_) rfl rfl rfl (by decide) rfl (by decide) (by decide) rfl (by decide) rfl)
  dsimp only at F2 N2 ⊢
  refine wpAny_execs_cons (comp_intsA (f := fun n => n.fmod 5 - 1) (by exact R.hh) F2 N2 (y := "cells") rfl (hl.at fun o e => F2.keep l o e) hi (by omega) (fun C n t s₂ m₂ E' _ hns hm => elt_modsub (by decide) hns hm rfl rfl (by decide)) (fun Dm om ks h3 tk3 F3 N3 lm im => ?_) rfl rfl rfl (by decide) rfl (by decide) (by decide) rfl (by decide) rfl)
  dsimp only at F3 N3 ⊢
  clear F N F2 N2
  refine wpAny_execs_cons (wpAny_For ?_)
  refine Call_Name rfl (name_B F3 X TR (by k_is) (by boot_by_name) (by decide) ?_)
  refine PyProof.Rows.callWith_type rfl (evalArgs_plain (spliced_cons (wpAny_BinOp ?_)))
  refine Call_Name rfl (name_B F3 X TR (by k_is) (by boot_by_name) (by decide) (Calls.callWith_builtin rfl (evalArgs_plain (spliced_cons (ld F3 (v := .ref l) rfl (spliced_nil ?_))))))
  refine call_len_list (hl.at fun o e => F3.keep l o e) (by rw [List.size_toArray]; omega) (wpAny_Constant_int (add_int (spliced_nil ?_)))

  refine range1_rows F3 N3 fun h4 tk4 u1 u2 u3 hr4 F4 N4 k4 => ?_
  rw [show ((vs.toArray.size : Nat) : Int) + 1 = ((ns.length + 1 : Nat) : Int) by rw [List.size_toArray, hvl]; rfl] at hr4
  have hsm : Builtin.Range.small 0 ((ns.length + 1 : Nat) : Int) 1 = true := by
    rcases (show ns.length = 0 ∨ ns.length = 1 ∨ ns.length = 2 ∨ ns.length = 3 ∨ ns.length = 4 by omega) with e | e | e | e | e <;> (rw [e]; decide)
  refine wpAny_pyIter_range hr4 hsm ?_
  have F5 := F4.push (rangeIt 0 (ns.length + 1))
  have N5 := N4.push F4 (rangeIt 0 (ns.length + 1))
  rw [show Builtin.Range.rangeSize 0 ((ns.length + 1 : Nat) : Int) 1 = ((ns.length + 1 : Nat) : Int) - (0 : Nat) by rw [rangeSize_nat]; omega]
  obtain ⟨I, hI⟩ : ∃ I, I = h4.objs.size := ⟨_, rfl⟩
  have hIp : I ≠ Dp := by rw [hI]; exact Nat.ne_of_gt (lt_of_news N4 (Dp, op) (by k_mem))
  have hIm : I ≠ Dm := by rw [hI]; exact Nat.ne_of_gt (lt_of_news N4 (Dm, om) (by k_mem))
  rw [← hI] at N5
  show codeAny _ _ (.forLoop _ (.ref h4.objs.size) _ _ _) _ _
  rw [← hI]
  refine codeAny_forLoop (fun n s' => ∃ (k' : Nat) (h' : Heap) (tk' : Nat) (m' : Str → Option Value) (g' : Heap), n = ns.length + 1 - k' ∧ k' ≤ ns.length + 1 ∧ s' = { s with heap := h', toks := tk' } ∧ KtsTurn (frs.filterMap (·.frame)) s.heap g' ∧ Below A base frs g' ∧ Fr g' s.heap.objs.size h' m' ∧
      News g' s.heap.objs.size h' [(I, rangeIt k' (ns.length + 1)), (Dm, om), (Dp, op)] ∧ m' "start" = some (.int x t) ∧ m' "pieces" = some (.ref Dp) ∧ m' "marks" = some (.ref Dm)) ?_ (ns.length + 1)
    ⟨0, _, _, _, s.heap, rfl, by omega, rfl, .refl, B, F5, N5, rfl, rfl, rfl⟩
  clear F3 N3 F4 N4 F5 N5 hr4 k4
  rintro n _ ⟨k', h', tk', m', g', rfl, hk', rfl, T', B', F', N', e1, e2, e3⟩
  have nI := N' _ (List.Mem.head _)
  rcases Nat.lt_or_ge k' (ns.length + 1) with hlt | hge
  · refine wpAny_pyNext_range_item nI.1 (by omega) fun h6 hit6 hs6 => ?_
    dsimp only
    have F6 := F'.change hs6 nI.2.1 nI.2.2
    have N6 : News g' s.heap.objs.size h6 [(I, rangeIt (k' + 1) (ns.length + 1)), (Dm, om), (Dp, op)] := fun q hq => by
      rcases List.mem_cons.mp hq with rfl | hq
      · refine ⟨?_, nI.2⟩
        rw [show rangeIt (k' + 1) (ns.length + 1) = { cls := .type "range_iterator", dict := none, data := .fields #[rawInt ((k' : Int) + 1), rawInt (((ns.length + 1 : Nat) : Int) - k' - 1), rawInt 1], slots := #[] } by
          unfold rangeIt
          rw [show ((ns.length + 1 : Nat) : Int) - ((k' + 1 : Nat) : Int) = ((ns.length + 1 : Nat) : Int) - k' - 1 by omega]
          rfl]
        exact hit6
      · refine ⟨(hs6.2 _ ?_).trans (N' q (List.mem_cons_of_mem _ hq)).1, (N' q (List.mem_cons_of_mem _ hq)).2⟩
        rcases List.mem_cons.mp hq with rfl | hq
        · exact hIm.symm
        · rw [List.mem_singleton.mp hq]; exact hIp.symm
    refine wpAny_assign_Name (stN F6 N6 fun h7 F7 N7 => ?_)
    refine wpAny_passesOwn PassesOwn.leaving ?_
    dsimp only at F7 N7 ⊢
    clear F6 N6 hs6 hit6
    have X' : (hd.heap_39 w.params).In g' := XB.keeps B'.stays
    have TR' := topRead_of (TB.keeps B'.stays)
    have hps : ∀ n ∈ (ns.map fun n => n.fmod 7).take k', 0 ≤ n ∧ n ≤ 6 := fun n hm => by
      obtain ⟨a, _, rfl⟩ := List.mem_map.mp (List.mem_of_mem_take hm)
      have := (fdiv_fmod_facts a 7).2.2.1 (by decide)
      omega
    have hks : ∀ n ∈ (ns.map fun n => n.fmod 5 - 1).take k', -1 ≤ n ∧ n ≤ 3 := fun n hm => by
      obtain ⟨a, _, rfl⟩ := List.mem_map.mp (List.mem_of_mem_take hm)
      have := (fdiv_fmod_facts a 5).2.2.1 (by decide)
      omega
    have hln : ∀ f : Int → Int, (ns.map f).length ≤ 1000 := fun f => by rw [List.length_map]; omega
    have htk : ∀ f : Int → Int, ((ns.map f).take k').length ≤ 4 := fun f => by rw [List.length_take, List.length_map]; omega
    obtain ⟨fs, fds, hfs, hfds⟩ := sums_fn X'
    obtain ⟨fl, fdl, hfl, hfdl⟩ := left_fn X'
    obtain ⟨fg, fdg, hfg, hfdg⟩ := signs_fn X'
    -- _law_sums
    refine wpAny_execs_cons (wpAny_Assign_Name (wpAny_BinOp ?_))
    refine Call_Name rfl (name_K F7 X' TR' (by k_is) (callWith_function (o := fs) (fd := fds) (evalArgs_plain ?_)))
    refine spliced_cons (ld F7 (v := .int x t) ((if_neg (by decide)).trans e1) (spliced_cons ?_))
    refine' upto_ints (vs := ps) (k := (k' : Int)) ?aF ?aN ?aX ?aY ?aL ip (hln _) (by omega) ?aH rfl rfl rfl (by decide) (by decide)
    case aF => exact F7
    case aN => exact N7
    case aX => exact (if_neg (by decide)).trans e2
    case aY => exact if_pos rfl
    case aL => exact lp.is N7 (by k_mem)
    intro D8 ws8 h8 F8 N8 l8 i8
    rw [Int.toNat_natCast] at i8
    refine spliced_nil ⟨⟨F8.keep _ _ hfs, hfds⟩, ?_⟩
    refine sums_call G (pushX B' F8 rfl rfl) R.deeper (N8 _ (List.Mem.head _)).1 ⟨rfl, _, rfl⟩ i8 (htk _) hps hx fun r9 ro9 ws9 tl9 h9 tk9 st9 nw9 mr9 lo9 ln9 as9 => ?_
    have F9 := Fr.after F8 st9
    have N9 := news_grow F8 N8 st9 nw9
    dsimp only at F9 N9 ⊢
    -- _law_left
    refine Call_Name rfl (name_K F9 X' TR' (by k_is) (callWith_function (o := fl) (fd := fdl) (evalArgs_plain ?_)))
    refine spliced_cons (ld F9 (v := .int x t) ((if_neg (by decide)).trans e1) (spliced_cons ?_))
    refine' upto_ints (vs := ps) (k := (k' : Int)) ?bF ?bN ?bX ?bY ?bL ip (hln _) (by omega) ?bH rfl rfl rfl (by decide) (by decide)
    case bF => exact F9
    case bN => exact N9
    case bX => exact (if_neg (by decide)).trans e2
    case bY => exact if_pos rfl
    case bL => exact lp.is N9 (List.mem_append_right _ (by k_mem))
    intro D10 ws10 h10 F10 N10 l10 i10
    rw [Int.toNat_natCast] at i10
    refine spliced_nil ⟨⟨F10.keep _ _ hfl, hfdl⟩, ?_⟩
    refine left_call G (pushX B' F10 rfl rfl) R.deeper (N10 _ (List.Mem.head _)).1 ⟨rfl, _, rfl⟩ i10 (htk _) hps fun r11 ro11 ws11 tl11 h11 tk11 st11 nw11 mr11 lo11 ln11 as11 => ?_
    have F11 := Fr.after F10 st11
    have N11 := news_grow F10 N10 st11 nw11
    dsimp only at F11 N11 ⊢
    have mr9' : (r9, ro9) ∈ tl11 ++ (D10, listOf ws10.toArray 0) :: (tl9 ++ (D8, listOf ws8.toArray 0) :: [(I, rangeIt (k' + 1) (ns.length + 1)), (Dm, om), (Dp, op)]) := List.mem_append_right _ (List.mem_cons_of_mem _ (List.mem_append_left _ mr9))
    refine add_lists (hsz := ?hz) F11 N11 (vs := ws9) (ws := ws11) (lo9.is N11 mr9') (lo11.is N11 (List.mem_append_left _ mr11)) fun h12 F12 N12 => ?_
    case hz => rw [sizeLine_eq]; omega
    refine stN F12 N12 fun h13 F13 N13 => ?_
    dsimp only at F13 N13 ⊢
    have hr12 := lt_of_news N11
    obtain ⟨r12, hr12e⟩ : ∃ r, r = h11.objs.size := ⟨_, rfl⟩
    rw [← hr12e] at F13 N13 hr12
    -- _law_signs
    refine wpAny_execs_cons (wpAny_AugAssign_Name (wpAny_loadName_local rfl rfl F13.ns (if_pos rfl) ?_))
    refine Call_Name rfl (name_K F13 X' TR' (by k_is) (callWith_function (o := fg) (fd := fdg) (evalArgs_plain ?_)))
    refine spliced_cons (wpAny_BinOp (wpAny_BinOp (ld F13 (v := .int x t) ((if_neg (by decide)).trans ((if_neg (by decide)).trans e1)) (wpAny_Constant_int (mod_int (by decide) (wpAny_Constant_int (sub_int (spliced_cons ?_))))))))
    refine' upto_ints (vs := ks) (k := (k' : Int)) ?cF ?cN ?cX ?cY ?cL im (hln _) (by omega) ?cH rfl rfl rfl (by decide) (by decide)
    case cF => exact F13
    case cN => exact N13
    case cX => exact (if_neg (by decide)).trans ((if_neg (by decide)).trans e3)
    case cY => exact (if_neg (by decide)).trans (if_pos rfl)
    case cL => exact lm.is N13 (List.mem_cons_of_mem _ (List.mem_append_right _ (List.mem_cons_of_mem _ (List.mem_append_right _ (by k_mem)))))
    intro D14 ws14 h14 F14 N14 l14 i14
    rw [Int.toNat_natCast] at i14
    refine spliced_nil ⟨⟨F14.keep _ _ hfg, hfdg⟩, ?_⟩
    refine signs_call G (pushX B' F14 rfl rfl) R.deeper (N14 _ (List.Mem.head _)).1 ⟨rfl, _, rfl⟩ i14 (htk _) hks fun r15 ro15 ws15 tl15 h15 tk15 st15 nw15 mr15 lo15 ln15 as15 => ?_
    have F15 := Fr.after F14 st15
    have N15 := news_grow F14 N14 st15 nw15
    dsimp only at F15 N15 ⊢
    have o12 := N13 _ (List.Mem.head _)
    have o12' := N14 _ (List.Mem.tail _ (List.Mem.head _))
    have N16 : News g' s.heap.objs.size h15 ((r12, { cls := .type "list", data := .seq (ws9 ++ ws11).toArray }) :: (tl15 ++ (D14, listOf ws14.toArray 0) :: (tl11 ++ (D10, listOf ws10.toArray 0) :: (tl9 ++ (D8, listOf ws8.toArray 0) :: [(I, rangeIt (k' + 1) (ns.length + 1)), (Dm, om), (Dp, op)])))) := fun q hq => by
      refine N15 q ?_
      rcases List.mem_cons.mp hq with rfl | hq
      · exact List.mem_append_right _ (List.Mem.tail _ (List.Mem.head _))
      · rcases List.mem_append.mp hq with hq | hq
        · exact List.mem_append_left _ hq
        · refine List.mem_append_right _ ?_
          rcases List.mem_cons.mp hq with rfl | hq
          · exact List.Mem.head _
          · exact List.Mem.tail _ (List.Mem.tail _ hq)
    have hne16 : ∀ p ∈ tl15 ++ (D14, listOf ws14.toArray 0) :: (tl11 ++ (D10, listOf ws10.toArray 0) :: (tl9 ++ (D8, listOf ws8.toArray 0) :: [(I, rangeIt (k' + 1) (ns.length + 1)), (Dm, om), (Dp, op)])), p.1 ≠ r12 := fun q hq => by
      rcases List.mem_append.mp hq with hq | hq
      · intro e
        have := (nw15 q hq).2
        rw [e, o12'.1] at this; cases this
      · rcases List.mem_cons.mp hq with rfl | hq
        · exact Nat.ne_of_gt (l14 _ (List.Mem.head _))
        · exact Nat.ne_of_lt (hr12 q hq)
    refine iadd_lists F15 N16 hne16 (vs := ws9 ++ ws11) (ws := ws15) ⟨rfl, _, rfl⟩ (lo15.is N15 (List.mem_append_left _ mr15)) (fun h17 lo17 F17 N17 l17 => ?_) (by rw [List.length_append]; omega)
    refine stN F17 N17 fun h18 F18 N18 => ?_
    dsimp only at F18 N18 ⊢
    clear N15 N16 N17 F17 F15 F14 N14 F13 N13 F12 N12 F11 N11 F10 N10 F9 N9 F8 N8 F7 N7
    refine wpAny_execs_cons ?_
    refine' asks_for G B' R ?dF ?dN (List.Mem.head _) l17 ?dA ?dM ?dD rfl rfl rfl rfl rfl rfl rfl
    case dF => exact F18
    case dN => exact N18
    case dM => exact if_pos rfl
    case dA =>
      intro v hv
      rcases List.mem_append.mp hv with hv | hv
      · rcases List.mem_append.mp hv with hv | hv
        · refine (as9 v hv).mono fun p hp => List.mem_cons_of_mem _ (List.mem_append_right _ (List.mem_cons_of_mem _ (List.mem_append_right _ (List.mem_cons_of_mem _ ?_))))
          rcases List.mem_append.mp hp with hp | hp
          · exact List.mem_append_left _ hp
          · rw [List.mem_singleton.mp hp]; exact List.mem_append_right _ (List.Mem.head _)
        · refine (as11 v hv).mono fun p hp => List.mem_cons_of_mem _ (List.mem_append_right _ (List.mem_cons_of_mem _ ?_))
          rcases List.mem_append.mp hp with hp | hp
          · exact List.mem_append_left _ hp
          · rw [List.mem_singleton.mp hp]; exact List.mem_append_right _ (List.Mem.head _)
      · refine (as15 v hv).mono fun p hp => List.mem_cons_of_mem _ ?_
        rcases List.mem_append.mp hp with hp | hp
        · exact List.mem_append_left _ hp
        · rw [List.mem_singleton.mp hp]; exact List.mem_append_right _ (List.Mem.head _)
    case dD =>
      intro g19 h19 m19 tk19 T19 B19 F19 N19 q1 q2 q3
      refine wpAny_execs_nil ?_
      refine ⟨ns.length + 1 - (k' + 1), by omega, k' + 1, h19, tk19, m19, g19, rfl, by omega, rfl, T'.trans T19, B19, F19, fun q hq => N19 q (List.mem_cons_of_mem _ (List.mem_append_right _ (List.mem_cons_of_mem _ (List.mem_append_right _ (List.mem_cons_of_mem _ (List.mem_append_right _ (List.mem_cons_of_mem _ hq))))))), ?_, ?_, ?_⟩
      · exact q1.trans ((if_neg (by decide)).trans ((if_neg (by decide)).trans ((if_neg (by decide)).trans e1)))
      · exact q2.trans ((if_neg (by decide)).trans ((if_neg (by decide)).trans ((if_neg (by decide)).trans e2)))
      · exact q3.trans ((if_neg (by decide)).trans ((if_neg (by decide)).trans ((if_neg (by decide)).trans e3)))
  · obtain rfl : k' = ns.length + 1 := by omega
    refine wpAny_pyNext_range_end (by exact R.hh) nI.1 (by omega) fun h6 hs6 => ?_
    have F6 := Fr.ext F' hs6 nI.2.1 nI.2.2
    exact wpAny_execs_nil (wpAny_execs_cons (wpAny_Return_some (Constant_bool (ret _ _ (.of_turn T' F6)))))
end Mine
end

/- B6 -/
section
open PySem PySem.W PySem.Spec PySem.Calls PyProof.Rows
set_option Elab.async false
set_option maxRecDepth 100000
namespace Mine

theorem fillNowB6 (w : World) (base : Heap) : PySem.Challenge.rw_mr0096_01.name = PySem.Challenge.rw_mr0096_01.name ∨ (hd.heap_39 w.params).In base := by
  k_fill
  exact Or.inl rfl

/-- a comprehension each of whose turns makes one int -/
theorem rest_ints {prog : Program} {w : World} {A : Around} {h₀ : Heap} {L : Addr} {m : Str → Option Value} {env : Env} {elt : Expr} {x : Str} {scope : Scope} {cl : List (Str × Addr)} {s : Shared} {S : List (Addr × Obj) → Prop} {P : Nat → Value → Prop} {Fin : List Value → List (Addr × Obj) → Prop} {n : Nat} {news : List (Addr × Obj)}
    (hS : S news)
    (turn : ∀ i v I oI C oC D ys m₂ h tk E' (Q' : Value → Shared → Prop), i < n → P i v → LCg.NsObj oC m₂ → m₂ x = some v → Fr h₀ L h m → News h₀ L h ((I, oI) :: (C, oC) :: (D, LCg.lst ys) :: news) →
      (∀ z t h' tk', Fr h₀ L h' m → News h₀ L h' ((I, oI) :: (C, oC) :: (D, LCg.lst ys) :: news) → Q' (.int z t) { s with heap := h', toks := tk' }) →
      wpAny (model prog w) A (eval elt (compEnvC scope cl C env)) Q' E' { s with heap := h, toks := tk })
    (fin : ∀ ys zs, zs.length = n → IntsAre ys zs → Fin ys news) :
    ∀ k i ys zs, i + k = n → zs.length = i → IntsAre ys zs → LCg.CompRest prog w A h₀ L m env elt x scope cl s S P Fin k i ys news := by
  intro k
  induction k with
  | zero => intro i ys zs hik hl ha; exact LCg.CompRest.zero (fin ys zs (by omega) ha)
  | succ k ih =>
    intro i ys zs hik hl ha
    refine LCg.CompRest.succ fun v I oI C oC D m₂ h tk E' hP hoC hx F N off ne => ?_
    refine turn i v I oI C oC D ys m₂ h tk E' _ (by omega) hP hoC hx F N fun z t h' tk' F' N' => ?_
    exact LCg.CompEnd.intro F' N' news (fun p hp => hp) off hS (ih (i + 1) _ (zs ++ [z]) (by omega) (by simp [hl]) (ha.append (.cons z t .nil)))

set_option maxHeartbeats 1000000 in
theorem cells_call {w : World} {mean : ExcName → Option Value} {mg mb : Str → Option Value} {base : Heap} {frs : List Env} {A : Around} {s : Shared} {Q E : Value → Shared → Prop} {l : Addr} {vs : List Value} {ns : List Int}
    (G : Ba w mean mg mb base) (B : Below A base frs s.heap) (R : Room A 1) (hl : s.heap.IsList l vs.toArray) (hi : IntsAre vs ns) (hn : ns.length ≤ 63)
    (ret : ∀ r ro ws zs h' tk', s.heap.StaysIn h' → h'.get? r = some ro → s.heap.get? r = none → ListObj ro ws → IntsAre ws zs → zs.length = 5 → Q (.ref r) { s with heap := h', toks := tk' }) :
    wpAny (model PySem.Challenge.rw_mr0096_01.row.prog w) A (call (.ref 153) [.ref l]) Q E s := by
  have XB := G.X
  have TB := G.T
  refine wpAny_call ?_
  k_dflt (refine' enterC [("script", .ref l)] XB TB B ?ho ?hcd R.now ?hbind ?hloc ?hnd ?_ ?c2 ?c3 ?c4; (case ho => k_is); (case hcd => k_is); (case hbind => exact BindsTo.of_eq rfl); (case hloc => exact rfl); (case hnd => decide); (case c2 => exact rfl); (case c3 => exact rfl); (case c4 => exact rfl))
  intro h1 tk1 cells F N Y X T
  have TR := topRead_of T
  obtain ⟨ot, os, rfl, hot, hos⟩ := Y.two
  clear Y
  replace hot : ot.data = .cell none := hot
  replace hos : os.data = .cell (some (.ref l)) := hos
  refine wpAny_execs_cons (wpAny_Assign_Name (List_ ?_))
  refine spl (wpAny_Constant_int ?_)
  refine spl (wpAny_Constant_int ?_)
  refine spl (wpAny_Constant_int ?_)
  refine spl (wpAny_Constant_int ?_)
  refine spl (wpAny_Constant_int ?_)
  refine spl_nil (newList_K F N fun Dd h2 F2 N2 l2 => ?_)
  refine storeX_C (cl := cellsFrom (s.heap.objs.size + 1) _ []) F2 N2 rfl (.tail (Nat.ne_of_gt (l2 (_, ot) (by k_mem))) (.head (fun p hp => ?hne))) hot (fun h3 ot3 F3 N3 hot3 => ?_) rfl rfl
  case hne => rw [List.mem_singleton.mp hp]; show s.heap.objs.size + 1 ≠ s.heap.objs.size + 1 + 1; omega
  dsimp only at F3 N3 ⊢
  clear F2 N2 F N
  refine wpAny_execs_cons (wpAny_Return_some ?_)
  refine LCg.ListComp_U (F₀ := F3) (cl := [("starts", s.heap.objs.size + 1 + 1), ("script", s.heap.objs.size + 1)]) (by with_unfolding_all rfl) (by decide) rfl (by decide) rfl ?_ (fun _ => rfl)
  refine Call_Name rfl (nameX_B (cl := cellsFrom (s.heap.objs.size + 1) _ []) F3 X TR (by k_is) (by boot_by_name) (by decide) ?_)
  refine PyProof.Rows.callWith_type rfl (evalArgs_plain (spliced_cons (wpAny_Constant_int (k := 0) (pos := ⟨0, 0, 0, 0⟩) (spliced_nil ?_))))
  refine range1_rows F3 N3 fun h4 tk4 u1 u2 u3 hr4 F4 N4 k4 => ?_
  dsimp only
  refine LCg.CompSrc.range (n := 5) (by exact R.hh) F4 N4 hr4 (by decide) (by decide) (by decide) fun g => ?_
  refine rest_ints (n := 5) trivial ?_ ?_ 5 0 [] [] rfl rfl .nil
  · intro i v I oI C oC D ys m₂ h tk E' Q' hi5 hP hoC hx F5 N5 k
    obtain ⟨tv, rfl⟩ := hP
    have hDd := (N5 _ (.tail _ (.tail _ (.tail _ (.head _))))).1
    have hidx : (0 + (i : Int)).toNat = i := by omega
    obtain ⟨c, ct, hc⟩ : ∃ c ct, [Value.int 1002 tk1, .int 16 (tk1 + 1), .int 2 (tk1 + 1 + 1), .int 11 (tk1 + 1 + 1 + 1), .int 6 (tk1 + 1 + 1 + 1 + 1)][i]? = some (.int c ct) := by
      rcases (show i = 0 ∨ i = 1 ∨ i = 2 ∨ i = 3 ∨ i = 4 by omega) with rfl | rfl | rfl | rfl | rfl
      · exact ⟨_, _, rfl⟩
      · exact ⟨_, _, rfl⟩
      · exact ⟨_, _, rfl⟩
      · exact ⟨_, _, rfl⟩
      · exact ⟨_, _, rfl⟩
    refine wpAny_BinOp (Subscript_ (lcf_cell N5 rfl (.tail _ (.tail _ (.tail _ (.tail _ (.head _))))) hot3 (LCgL.ld_own N5 (.tail _ (.head _)) hoC hx ?_) rfl rfl))
    refine item_at (v := .int c ct) (vs := [Value.int 1002 tk1, .int 16 (tk1 + 1), .int 2 (tk1 + 1 + 1), .int 11 (tk1 + 1 + 1 + 1), .int 6 (tk1 + 1 + 1 + 1 + 1)]) ⟨_, hDd, rfl, _, rfl⟩ (by omega) (by omega) (by rw [hidx]; exact hc) ?_ (by with_unfolding_all rfl)
    refine Call_Name rfl (LCgL.ld_built F5 X T (by k_is) (by boot_by_name) (by decide) (Calls.callWith_builtin rfl (evalArgs_plain (spliced_cons ?_))))
    refine Subscript_ (lcf_cell N5 rfl (.tail _ (.tail _ (.tail _ (.tail _ (.tail _ (.head _)))))) hos (wpAny_Slice ?_) rfl rfl)
    refine evalPart_some_step (LCgL.ld_own N5 (.tail _ (.head _)) hoC hx (evalPart_some_step (wpAny_Constant_int (evalPart_some_step (wpAny_Constant_int ?_)))))
    refine slice_list3 (s := { s with heap := h, toks := _ }) F5 N5 (hl.at fun o e => F5.keep l o e) (.int ..) (.int ..) (.int ..) (by decide) (fun h6 F6 N6 => ?_) (by with_unfolding_all rfl) (by intro _; with_unfolding_all rfl) (by rw [List.size_toArray, hi.length, sizeLine_eq]; omega)
    refine spliced_nil ?_
    have hpk := hi.pick (some (0 + (i : Int))) (some 15) (some 5)
    refine sum_ints (vs := (slicePick vs.toArray (some (0 + (i : Int))) (some 15) (some 5)).toList) (by exact R.hh) ⟨_, (N6 _ (.head _)).1, rfl, _, rfl⟩ hpk fun h7 tk7 t7 st7 => ?_
    have F7 := Fr.after F6 st7
    refine add_int (k _ _ h7 _ F7 fun q hq => ⟨st7 _ _ (N6 q (List.mem_cons_of_mem _ hq)).1, (N6 q (List.mem_cons_of_mem _ hq)).2⟩)
  · intro ys zs hly ha D h tk F6 N6 o6
    have n6 := N6 _ (List.Mem.head _)
    exact ret D _ ys zs h tk F6.keep n6.1 n6.2.2 ⟨rfl, _, rfl⟩ ha hly
end Mine
end

/- B7 -/
section
open PySem PySem.W PySem.Spec PySem.Calls PyProof.Rows
set_option Elab.async false
set_option maxRecDepth 100000
namespace Mine

theorem fillNowB7 (w : World) (base : Heap) : PySem.Challenge.rw_mr0096_01.name = PySem.Challenge.rw_mr0096_01.name ∨ (hd.heap_39 w.params).In base := by
  k_fill
  exact Or.inl rfl

theorem agree_fn {w : World} {h : Heap} (X : (hd.heap_39 w.params).In h) : ∃ o fd, h.get? 148 = some o ∧ o.data = .func fd := by
  k_dflt (refine' fn_of X ?h; (case h => k_is))
theorem cells_fn {w : World} {h : Heap} (X : (hd.heap_39 w.params).In h) : ∃ o fd, h.get? 153 = some o ∧ o.data = .func fd := by
  k_dflt (refine' fn_of X ?h; (case h => k_is))

set_option maxHeartbeats 1000000 in
theorem law_eval {w : World} {mean : ExcName → Option Value} {mg mb : Str → Option Value} {g : Heap} {A : Around} {s : Shared} {Q E : Value → Shared → Prop} {name : Str} {scope : Scope} {L f l : Addr} {cd : Value} {m : Str → Option Value} {vs : List Value} {ns : List Int}
    {p1 p2 p3 p4 p5 p6 p7 p8 p9 p10 p11 p12 p13 p14 p15 p16 p17 : Pos}
    (G : Ba w mean mg mb g) (B : Below A g [] g) (R : Room A 7) (F : Fr g L s.heap m) (ml : m "script" = some (.ref l)) (hl : g.IsList l vs.toArray) (hi : IntsAre vs ns) (hn : ns.length ≤ 63)
    (ret : ∀ h' tk', Fr g L h' m → Q (.bool true) { s with heap := h', toks := tk' })
    (hk : scope.kind = .function) (k1 : (envOf name scope L f cd).kindOf "script" = some .local) (k2 : (envOf name scope L f cd).kindOf "_law_agree" = some .globalImplicit) (k3 : (envOf name scope L f cd).kindOf "_law_cells" = some .globalImplicit) :
    wpAny (model PySem.Challenge.rw_mr0096_01.row.prog w) (A.deeper (envOf name scope L f cd))
      (eval (.Call (.Name "_law_agree" p1) [.BinOp (.BinOp (.Subscript (.Call (.Name "_law_cells" p2) [.Name "script" p3] [] p4) (.Constant (.int 0) 0 p5) p6) .Mod (.Constant (.int 2000003) 0 p7) p8) .Sub (.Constant (.int 1000001) 0 p9) p10,
        .Subscript (.Call (.Name "_law_cells" p11) [.Name "script" p12] [] p13) (.Slice (some (.Constant (.int 1) 0 p14)) none none p15) p16] [] p17) (envOf name scope L f cd)) Q E s := by
  have X := G.X
  have T := G.T
  have TR := topRead_of T
  obtain ⟨fa, fda, hfa, hfda⟩ := agree_fn X
  obtain ⟨fc, fdc, hfc, hfdc⟩ := cells_fn X
  refine Call_Name rfl (name_K F X TR (by k_is) (callWith_function (o := fa) (fd := fda) (evalArgs_plain (spliced_cons (wpAny_BinOp (wpAny_BinOp (Subscript_ ?_)))))) hk k2)
  refine Call_Name rfl (name_K F X TR (by k_is) (callWith_function (o := fc) (fd := fdc) (evalArgs_plain (spliced_cons (ld F ml (spliced_nil ⟨⟨F.keep _ _ hfc, hfdc⟩, ?_⟩) hk k1)))) hk k3)
  refine cells_call G (pushX B F (env := envOf name scope L f cd) rfl hk) (R.less (show 2 ≤ 7 by decide)).deeper (hl.at fun o e => F.keep l o e) hi hn fun r1 ro1 ws1 zs1 h1 tk1 st1 hr1 hf1 lo1 i1 n1 => ?_
  have F1 := Fr.after F st1
  obtain ⟨t0, hz0⟩ := i1.get 0 zs1[0] (by simp [n1])
  refine wpAny_Constant_int (item_at (v := .int zs1[0] t0) ⟨ro1, hr1, lo1.1, lo1.2⟩ (by decide) (by decide) hz0 ?_ (by with_unfolding_all rfl))
  refine wpAny_Constant_int (mod_int (by decide) (wpAny_Constant_int (sub_int (spliced_cons (Subscript_ ?_)))))
  have hz := (fdiv_fmod_facts zs1[0] 2000003).2.2.1 (by decide)
  have hx : -1000001 ≤ zs1[0].fmod 2000003 - 1000001 ∧ zs1[0].fmod 2000003 - 1000001 ≤ 1000001 := by omega
  generalize zs1[0].fmod 2000003 - 1000001 = x at hx ⊢
  refine Call_Name rfl (name_K F1 X TR (by k_is) (callWith_function (o := fc) (fd := fdc) (evalArgs_plain (spliced_cons (ld F1 ml (spliced_nil ⟨⟨F1.keep _ _ hfc, hfdc⟩, ?_⟩) hk k1)))) hk k3)
  refine cells_call G (pushX B F1 (env := envOf name scope L f cd) rfl hk) (R.less (show 2 ≤ 7 by decide)).deeper (hl.at fun o e => F1.keep l o e) hi hn fun r2 ro2 ws2 zs2 h2 tk2 st2 hr2 hf2 lo2 i2 n2 => ?_
  have F2 := Fr.after F1 st2
  refine wpAny_Slice (evalPart_some_step (wpAny_Constant_int (evalPart_none_step (evalPart_none_step ?_))))
  dsimp only
  have hl2 : h2.IsList r2 ws2.toArray := ⟨ro2, hr2, lo2.1, lo2.2⟩
  refine tail_any (Heap.IsList.typeIs (hl2.push _)) list_getitem_lookup (wpAny_getItem_list_slice (hl2.push _) (Heap.IsSliceOf.new ..) (.int ..) .none .none (by simp) ?_ (by rw [List.size_toArray, i2.length, sizeLine_eq]; omega)) (by with_unfolding_all rfl)
  dsimp only
  have F3 := (F2.push { cls := .type "slice", data := .fields #[.int 1 tk2, .none, .none] }).push { cls := .type "list", data := .seq (slicePick ws2.toArray (some 1) none none) }
  refine spliced_nil ⟨⟨F3.keep _ _ hfa, hfda⟩, ?_⟩
  have i3 := kmk_from i2 (show (0 : Int) ≤ 1 by decide)
  refine agree_call (vs := (slicePick ws2.toArray (some 1) none none).toList) G (pushX B F3 (env := envOf name scope L f cd) rfl hk) R.deeper ⟨_, Heap.get?_push_size _ rfl, rfl, _, rfl⟩ i3 (by rw [List.length_drop]; omega) hx fun h4 tk4 a4 => ?_
  obtain ⟨g4, T4, F4, B4, N4⟩ := turned B F3 a4
  exact ret h4 tk4 ⟨F4.ns, fun b o e => F4.keep b o (T4.other b o e (List.not_mem_nil)), F.above⟩
end Mine
end

/- B8 -/
section
open PySem PySem.W PySem.Spec PySem.Calls PyProof.Rows
set_option Elab.async false
set_option maxRecDepth 100000
namespace Mine

theorem room_caller : Room callerA 7 := ⟨rfl, by decide, by decide⟩

end Mine

set_option maxHeartbeats 2000000 in
theorem PySem.Challenge.cw_mr0096_01_holds : PySem.Challenge.rw_mr0096_01.Holds :=
  Mine.hd (by
    w_strict (k_go0; (all_goals try k_fold)
              (rename (Mine.hd.heap_39 _).In _ => KX); (rename Top _ _ _ _ _ _ => T); (rename Below _ _ _ _ => K0); (rename Heap.IsList _ _ _ => hL); (rename IntsAre _ _ => hI); (rename Fr _ _ _ _ => F); (rename ¬ (_ < _) => hc)
              (refine wpAny_execs_cons (wpAny_Return_some (Mine.law_eval ⟨KX, T⟩ K0 Mine.room_caller F rfl hL hI (by omega) (fun h' tk' F' => ?_) rfl rfl rfl rfl)))
              (clear F)
              k_steps))
end
