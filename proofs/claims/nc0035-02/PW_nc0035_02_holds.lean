import PyProof.Rows.All
import Wide.All
import OpenK.AllK
import Wide.FinOn
import Lean
import PySem.Challenge.RW_nc0035_02
set_option Elab.async false
set_option maxRecDepth 100000
set_option linter.all false
open PySem PySem.W PyProof.Rows PySem.Calls

namespace Mine
/-- the text less its assignments -/
noncomputable def view : Program := { PySem.Challenge.rw_nc0035_02.row.prog with main := { PySem.Challenge.rw_nc0035_02.row.prog.main with body := PySem.Challenge.rw_nc0035_02.row.prog.main.body.filter fun s => match s with | .Assign .. => false | _ => true } }
local macro_rules | `(tactic| o_head $H) => `(tactic| (
  refine holds_open (q := view) (loose := [Str.ofString "Clause", Str.ofString "AssignmentSet"]) (Xt := fun s => xlAt view [] s && recOk (RowW.records PySem.Challenge.rw_nc0035_02.row.toRowW) s) (XP := XL view []) (Yf := Hook.obs $H) (Ya := Hook.val $H) (YP := Hook.says $H) (N := 4000) ?hl (Hook.of _) (Hook.keeps _) (fun s e => xl_of s (Bool.and_eq_true_iff.mp e).1) XL.keeps (by rfl) (by rfl) (by rfl) (fun s e => recFacts_of (Bool.and_eq_true_iff.mp e).2) (by rfl) (by first | assumption | decide +kernel) (by decide +kernel) ⟨rfl, rfl, rfl, rfl, rfl, by decide +kernel⟩ ?hw ?hc
  (case hl => exact fun w => by kernel_rfl)))
set_option maxHeartbeats 8000000 in
open_top hd02 for PySem.Challenge.rw_nc0035_02
end Mine

namespace Mine

abbrev Ld := Addr → Option Obj
def upd (ld : Ld) (a : Addr) (o : Obj) : Ld := fun b => if b = a then some o else ld b
theorem upd_self {ld : Ld} {a : Addr} {o : Obj} : upd ld a o a = some o := by simp [upd]
theorem upd_ne {ld : Ld} {a b : Addr} {o : Obj} (h : b ≠ a) : upd ld a o b = ld b := by simp [upd, h]

/-- everything that ld says is so in h -/
def Led (ld : Ld) (h : Heap) : Prop := ∀ a o, ld a = some o → h.get? a = some o
theorem Led.self (h : Heap) : Led h.get? h := fun _ _ e => e
theorem Led.mono {ld ld' : Ld} {h : Heap} (x : Led ld h) (k : ∀ a o, ld' a = some o → ld a = some o) : Led ld' h := fun a o e => x a o (k a o e)

/-- a frame: its locals at L are m; ld is known of the heap, the base b among it -/
structure Z (b : Heap) (L : Addr) (m : Str → Option Value) (ld : Ld) (h : Heap) : Prop where
  ns : h.Ns L m
  led : Led ld h
  fr : ld L = none
  base : ∀ a o, b.get? a = some o → ld a = some o
  above : b.objs.size ≤ L

/-- base facts for a call -/
structure Bs (b h : Heap) : Prop where
  stays : b.StaysIn h
  size : b.objs.size ≤ h.objs.size

section
variable {b : Heap} {L : Addr} {m : Str → Option Value} {ld : Ld} {h : Heap}
theorem Z.stays (z : Z b L m ld h) : b.StaysIn h := fun a o e => z.led a o (z.base a o e)
theorem Z.bs (z : Z b L m ld h) : Bs b h := ⟨z.stays, Nat.le_of_lt (Nat.lt_of_le_of_lt z.above z.ns.lt)⟩
theorem Z.F (z : Z b L m ld h) : Fr b L h m := ⟨z.ns, z.stays, z.above⟩
theorem Z.neL (z : Z b L m ld h) {a : Addr} {o : Obj} (e : ld a = some o) : a ≠ L := fun q => by rw [q, z.fr] at e; cases e
theorem Z.mono {ld' : Ld} (z : Z b L m ld h) (k : ∀ a o, ld' a = some o → ld a = some o) (hb : ∀ a o, b.get? a = some o → ld' a = some o) : Z b L m ld' h where
  ns := z.ns
  led := z.led.mono k
  fr := by cases e : ld' L with | none => rfl | some o => have := k _ _ e; rw [z.fr] at this; cases this
  base := hb
  above := z.above
theorem Z.store {m' : Str → Option Value} {h' : Heap} (z : Z b L m ld h) (hn : h'.Ns L m') (hs : Heap.SameBut L h h') : Z b L m' ld h' where
  ns := hn
  led := fun a o e => (hs.2 a (z.neL e)).trans (z.led a o e)
  fr := z.fr
  base := z.base
  above := z.above
theorem Z.size_none (z : Z b L m ld h) : ld h.objs.size = none := by
  cases e : ld h.objs.size with
  | none => rfl
  | some o => exact absurd (Heap.lt_size (z.led _ _ e)) (Nat.lt_irrefl _)
theorem Z.push (z : Z b L m ld h) (o : Obj) (hf : o.isFreed = false := by rfl) : Z b L m (upd ld h.objs.size o) (h.push o) where
  ns := z.ns.keeps fun _ _ e => Heap.get?_push_of_some _ e
  led := fun a o' e => by
    by_cases q : a = h.objs.size
    · subst q; rw [upd_self] at e; cases e; exact Heap.get?_push_size _ hf
    · rw [upd_ne q] at e; exact Heap.get?_push_of_some _ (z.led a o' e)
  fr := by rw [upd_ne (Nat.ne_of_lt z.ns.lt)]; exact z.fr
  base := fun a o' e => by rw [upd_ne (Nat.ne_of_lt (Heap.lt_size (z.stays a o' e)))]; exact z.base a o' e
  above := z.above
/-- heap grows, nothing known turns -/
theorem Z.ext {h' : Heap} (z : Z b L m ld h) (k : ∀ a o, h.get? a = some o → h'.get? a = some o) : Z b L m ld h' where
  ns := z.ns.keeps k
  led := fun a o e => k _ _ (z.led a o e)
  fr := z.fr
  base := z.base
  above := z.above
/-- all but a is as it was, a is o' -/
theorem Z.turn {h' : Heap} {a : Addr} {o o' : Obj} (z : Z b L m ld h) (e : ld a = some o) (hb : b.get? a = none)
    (k : ∀ c oc, c ≠ a → h.get? c = some oc → h'.get? c = some oc) (e' : h'.get? a = some o') : Z b L m (upd ld a o') h' where
  ns := z.ns.at' fun oc ec => k _ oc (fun q => z.neL e q.symm) ec
  led := fun c oc ec => by
    by_cases q : c = a
    · subst q; rw [upd_self] at ec; cases ec; exact e'
    · rw [upd_ne q] at ec; exact k _ _ q (z.led _ _ ec)
  fr := by rw [upd_ne fun q => z.neL e q.symm]; exact z.fr
  base := fun c oc ec => by
    by_cases q : c = a
    · subst q; rw [hb] at ec; cases ec
    · rw [upd_ne q]; exact z.base c oc ec
  above := z.above
theorem Z.sameBut {h' : Heap} {a : Addr} {o o' : Obj} (z : Z b L m ld h) (e : ld a = some o) (hb : b.get? a = none)
    (hs : Heap.SameBut a h h') (e' : h'.get? a = some o') : Z b L m (upd ld a o') h' :=
  z.turn e hb (fun c oc q ec => (hs.2 c q).trans ec) e'
/-- behind a call that turned a alone -/
theorem Z.call {h' : Heap} {a : Addr} {o o' : Obj} (z : Z b L m ld h) (e : ld a = some o) (hb : b.get? a = none) (c : Led (upd h.get? a o') h') : Z b L m (upd ld a o') h' :=
  z.turn e hb (fun x ox q ex => c x ox ((upd_ne q).trans ex)) (c a o' upd_self)
theorem Z.call0 {h' : Heap} (z : Z b L m ld h) (c : Led h.get? h') : Z b L m ld h' := z.ext c
end

abbrev sh (s : Shared) (h : Heap) (t : Nat) : Shared := { s with heap := h, toks := t }

/-- room above -/
structure Room (A : Around) (n : Nat) : Prop where
  handled : A.handled = none
  depth : A.depth + n ≤ 900
  units : A.units + 10 * n ≤ 9000
theorem Room.deeper {A : Around} {n : Nat} (r : Room A (n + 1)) (env : Env) : Room (A.deeper env) n :=
  ⟨r.handled, by have := r.depth; show A.depth + 1 + n ≤ 900; omega, by have := r.units; show A.units + 3 + 10 * n ≤ 9000; omega⟩
theorem Room.room {A : Around} {n : Nat} (r : Room A n) : A.depth < recursionLimit := by have := r.depth; show A.depth < 1000; omega
theorem Room.unit {A : Around} {n : Nat} (r : Room A n) : A.units < cLine := by have := r.units; show A.units < 9900; omega
theorem Room.le {A : Around} {n k : Nat} (r : Room A n) (h : k ≤ n) : Room A k := ⟨r.handled, by have := r.depth; omega, by have := r.units; omega⟩

end Mine

namespace Mine

structure Cx (K : Frag) (mg mb : Str → Option Value) (b : Heap) : Prop where
  X : K.In b
  g : b.Ns mainGlobals mg
  bb : b.Ns builtinsNs mb
  nolimit : b.NoLimit
  builtins : ∀ x : Str, x ≠ "__name__" → mb x = bootBuiltins x

structure EnvIs (env : Env) (sc : Scope) (L : Addr) : Prop where
  scope : env.scope = sc
  locals : env.locals = L
  globals : env.globals = mainGlobals
  builtins : env.builtins = builtinsNs
  kind : sc.kind = .function

theorem EnvIs.kindOf {env : Env} {sc : Scope} {L : Addr} (e : EnvIs env sc L) {x : Str} {k : NameKind} (h : sc.names.lookup x = some k) : env.kindOf x = some k := by
  unfold Env.kindOf; rw [e.scope]; exact h
theorem EnvIs.fn {env : Env} {sc : Scope} {L : Addr} (e : EnvIs env sc L) : env.scope.kind = .function := by rw [e.scope]; exact e.kind
theorem EnvIs.plain {env : Env} {sc : Scope} {L : Addr} (e : EnvIs env sc L) : (env.scope.kind == .class || (env.scope.kind == .module && env.locals != env.globals)) = false := by rw [e.fn]; rfl
theorem EnvIs.still {env : Env} {sc : Scope} {L : Addr} (e : EnvIs env sc L) : interactive env = false := by unfold interactive; rw [e.fn]; rfl

section
variable {prog : Program} {w : World} {A : Around} {E : Value → Shared → Prop} {s : Shared} {K : Frag} {mg mb : Str → Option Value} {b : Heap} {L : Addr} {m : Str → Option Value} {ld : Ld} {env : Env} {sc : Scope}

theorem ev_loc {x : Str} {pos : Pos} {v : Value} {Q : Value → Shared → Prop} (e : EnvIs env sc L) (z : Z b L m ld s.heap) (hv : m x = some v) (h : Q v s)
    (hl : sc.names.lookup x = some .local := by rfl) (hd : (x == ("__debug__" : Str)) = false := by decide) : wpAny (model prog w) A (eval (.Name x pos) env) Q E s :=
  wpAny_Name (wpAny_loadName_local e.fn (e.kindOf hl) (e.locals ▸ z.ns) hv h) hd

theorem ev_glob {x : Str} {pos : Pos} {v : Value} {Q : Value → Shared → Prop} (e : EnvIs env sc L) (C : Cx K mg mb b) (z : Z b L m ld s.heap) (hv : nsIn K mainGlobals x = some (some v)) (h : Q v s)
    (hl : sc.names.lookup x = some .globalImplicit := by rfl) (hd : (x == ("__debug__" : Str)) = false := by decide) : wpAny (model prog w) A (eval (.Name x pos) env) Q E s :=
  Calls.Name_function_global e.fn (e.kindOf hl) (Calls.loadGlobal_global (mg := mg) (e.globals ▸ C.g.keeps z.stays) (mg_of C.X C.g hv) h) hd

theorem ev_bi {x : Str} {pos : Pos} {v : Value} {Q : Value → Shared → Prop} (e : EnvIs env sc L) (C : Cx K mg mb b) (z : Z b L m ld s.heap) (hn : nsIn K mainGlobals x = some none) (hv : bootBuiltins x = some v) (h : Q v s)
    (hne : x ≠ "__name__" := by decide) (hl : sc.names.lookup x = some .globalImplicit := by rfl) (hd : (x == ("__debug__" : Str)) = false := by decide) : wpAny (model prog w) A (eval (.Name x pos) env) Q E s :=
  Calls.Name_function_global e.fn (e.kindOf hl) (Calls.loadGlobal_builtin (mg := mg) (mb := mb) (e.globals ▸ C.g.keeps z.stays) (mg_none_of C.X C.g hn) (e.builtins ▸ C.bb.keeps z.stays) ((C.builtins x hne).trans hv) h) hd

theorem st_loc {x : Str} {v : Value} {Q : Unit → Shared → Prop} (e : EnvIs env sc L) (z : Z b L m ld s.heap)
    (h : ∀ h', Z b L (fun y => if y = x then some v else m y) ld h' → Q () { s with heap := h', toks := s.toks + 1 })
    (hl : sc.names.lookup x = some .local := by rfl) : wpAny (model prog w) A (storeName env x v) Q E s := by
  obtain rfl := e.locals
  exact wpAny_storeName_local (e.kindOf hl) z.ns (fun h' hn hs => h h' (z.store hn hs)) e.plain

/-- enter a def of the text -/
theorem enter {n : Nat} {f : Addr} {oc : Value} {od : Option Addr} {osl : Array (Option Value)} {fd : FuncData} {body : List Stmt} {pos : List Value} {kw : List (Str × Value)} {binds : List (Str × Value)} {Q : Value → Shared → Prop}
    (C : Cx K mg mb b) (hB : Bs b s.heap) (r : Room A (n + 1)) (ho : K.lookup f = some ⟨oc, od, .func fd, osl⟩) (hcd : codeIn K fd.code fd.qualname = true)
    (hbody : fd.body = .stmts body) (hbind : BindsTo s fd ⟨pos, kw⟩ binds)
    (hcell : (fd.scope.names.all fun x => decide (x.2 ≠ .cell)) = true) (hloc : (binds.all fun x => decide (fd.scope.names.lookup x.1 = some .local)) = true)
    (hg : fd.globals = mainGlobals) (hbu : fd.builtins = builtinsNs) (hcl : fd.closure = []) (hco : fd.scope.isCoroutine = false) (hgen : fd.scope.isGenerator = false) (hk : fd.scope.kind = .function)
    (h : ∀ A' env L h₁ tk, Room A' n → EnvIs env fd.scope L → Z b L (fun x => binds.reverse.lookup x) s.heap.get? h₁ →
      wpAny (model prog w) A' (execs body env) (fun fl s' => Q (match fl with | .ret v => v | _ => .none) s') (fun _ _ => False) { s with heap := h₁, toks := tk }) :
    wpAny (model prog w) A (call (.ref f) pos kw) Q E s := by
  refine wpAny_call ?_
  have hX := C.X.keeps hB.stays
  refine codeAny_call_def (fd := fd) r.room (hX _ _ ho) rfl (C.nolimit.keeps hB.stays) (codeRec_of hX hcd) hbody hbind (fun x hx => of_decide_eq_true (List.all_eq_true.mp hcell x hx)) (fun x hx => of_decide_eq_true (List.all_eq_true.mp hloc x hx)) ?_ hco hgen hk
  intro h₁ hns hk₁
  refine wpAny_mono (h _ (callEnv fd s.heap.objs.size f) s.heap.objs.size h₁ _ (r.deeper _) ⟨rfl, rfl, hg, hbu, hk⟩ ⟨hns, hk₁, ?_, hB.stays, hB.size⟩) (fun fl s' q => ?_) fun _ _ x => x.elim
  · cases e : s.heap.get? s.heap.objs.size with
    | none => rfl
    | some o => exact absurd (Heap.lt_size e) (Nat.lt_irrefl _)
  · cases fl <;> exact q
end
end Mine

namespace Mine

section
variable {prog : Program} {w : World} {A : Around} {E : Value → Shared → Prop} {s : Shared} {K : Frag} {mg mb : Str → Option Value} {b : Heap} {L : Addr} {m : Str → Option Value} {ld : Ld} {env : Env} {sc : Scope}

theorem Z.lt (z : Z b L m ld s.heap) {a : Addr} {o : Obj} (e : ld a = some o) : @LT.lt Nat _ a s.heap.objs.size := Heap.lt_size (z.led _ _ e)
theorem Z.blt (z : Z b L m ld s.heap) {a : Addr} {o : Obj} (e : b.get? a = some o) : @LT.lt Nat _ a s.heap.objs.size := Heap.lt_size (z.stays _ _ e)
theorem ne_of_lt1 {a n : Nat} (h : a < n) : (a : Addr) ≠ n := Nat.ne_of_lt h
theorem ne_of_lt2 {a n : Nat} (h : a < n) : (a : Addr) ≠ n + 1 := Nat.ne_of_lt (Nat.lt_succ_of_lt h)
theorem Z.none1 (z : Z b L m ld s.heap) : ld (s.heap.objs.size + 1) = none := by
  cases q : ld (s.heap.objs.size + 1) with
  | none => rfl
  | some o => exact absurd rfl (ne_of_lt2 (z.lt q))

theorem inst_at (z : Z b L m ld s.heap) {x Cl dx : Addr} {es : List DictEntry} {n : Nat} (hc : ld x = some (instObj Cl dx)) (hd : ld dx = some (dictOf es n)) : W.InstAt s.heap x (instObj Cl dx) Cl (some (dictOf es n)) :=
  ⟨z.led _ _ hc, rfl, rfl, z.led _ _ hd⟩

/-- an attribute of an object's own -/
theorem ga_own {x Cl dx : Addr} {es : List DictEntry} {n : Nat} {name : Str} {v : Value} {expr : Bool} {Q : Value → Shared → Prop} (C : Cx K mg mb b) (z : Z b L m ld s.heap)
    (hc : ld x = some (instObj Cl dx)) (hd : ld dx = some (dictOf es n)) (hl : getL name es = some (some v))
    (hg : plainGet K Cl name = true) (hh : hasDictIn K Cl = true) (ha : findIn K (.ref Cl) name = some none) (hv : handedIn v = true)
    (h : Q v { s with toks := s.toks + 1 }) : wpAny (model prog w) A (getAttr (.ref x) name expr) Q E s :=
  get_own z.F C.X (inst_at z hc hd) hg hh ha rfl hl hv h

/-- a method of an object -/
theorem gm_inst {x Cl dx f : Addr} {es : List DictEntry} {n : Nat} {name : Str} {pl : Sem Bool} {Q : Value × List Value → Shared → Prop} (C : Cx K mg mb b) (z : Z b L m ld s.heap)
    (hc : ld x = some (instObj Cl dx)) (hd : ld dx = some (dictOf es n)) (hl : getL name es = some none)
    (hg : plainGet K Cl name = true) (hf : findIn K (.ref Cl) name = some (some (.ref f))) (ht : isFn K (.ref f) = true)
    (h : Q (.ref f, [.ref x]) s) : wpAny (model prog w) A (getMethod (.ref x) name pl) Q E s :=
  method_inst z.F C.X (inst_at z hc hd) hg hf ht hl h

/-- calling a def or class of the text with arguments -/
theorem cw_K {f : Value} {first : List Value} {e : Expr} {rest : List Expr} {pos : Pos} {Q : Value → Shared → Prop} (C : Cx K mg mb b) (hk : keepIn K f = true)
    (h : wpAny (model prog w) A (spliced (backTo pos (starEach (e :: rest) env))) (fun vs s₁ => b.StaysIn s₁.heap ∧ wpAny (model prog w) A (call f (first ++ vs)) Q E s₁) E s)
    (he : starEach (e :: rest) env = (false, eval e env) :: starEach rest env := by rfl) (hplain : (backTo pos (starEach rest env)).any (·.1) = false := by rfl) :
    wpAny (model prog w) A (callWith pos f first (backTo pos (starEach (e :: rest) env)) []) Q E s :=
  callWith_K C.X hk (wpAny_mono h (fun _ _ x => ⟨C.X.keeps x.1, x.2⟩) fun _ _ x => x) he hplain
theorem cw_K0 {f : Value} {first : List Value} {pos : Pos} {Q : Value → Shared → Prop} (C : Cx K mg mb b) (z : Z b L m ld s.heap) (hk : keepIn K f = true) (h : wpAny (model prog w) A (call f (first ++ [])) Q E s) :
    wpAny (model prog w) A (callWith pos f first (backTo pos (starEach [] env)) []) Q E s :=
  callWith_K0 (C.X.keeps z.stays) hk h

theorem Z.isList (z : Z b L m ld s.heap) {l : Addr} {its : Array Value} {n : Nat} (hl : ld l = some (listOf its n)) : s.heap.IsList l its := ⟨_, z.led _ _ hl, rfl, n, rfl⟩

theorem in_ints {l : Addr} {vs : List Value} {n : Nat} {ns : List Int} {k : Int} {t : Tok} {Q : Value → Shared → Prop} (z : Z b L m ld s.heap) (hl : ld l = some (listOf vs.toArray n)) (hi : IntsAre vs ns)
    (h : Q (.bool (decide (k ∈ ns))) s) : wpAny (model prog w) A (compareOp .In (.int k t) (.ref l)) Q E s := by
  refine in_list_ints (z.isList hl) hi ?_
  rw [show (ns.any fun x => x == k) = decide (k ∈ ns) from by rw [Bool.eq_iff_iff]; simp]; exact h
theorem notin_ints {l : Addr} {vs : List Value} {n : Nat} {ns : List Int} {k : Int} {t : Tok} {Q : Value → Shared → Prop} (z : Z b L m ld s.heap) (hl : ld l = some (listOf vs.toArray n)) (hi : IntsAre vs ns)
    (h : Q (.bool (decide (k ∉ ns))) s) : wpAny (model prog w) A (compareOp .NotIn (.int k t) (.ref l)) Q E s := by
  refine notin_list_ints (z.isList hl) hi ?_
  rw [show (!ns.any fun x => x == k) = decide (k ∉ ns) from by rw [Bool.eq_iff_iff]; simp; exact ⟨fun h q => h _ q rfl, fun h x hx e => h (e ▸ hx)⟩]; exact h

/-- x[k:] and x[:k] for a list in a local name -/
theorem ev_from {x : Str} {px p1 p2 p3 : Pos} {l : Addr} {vs : List Value} {n k : Nat} {j : Nat} {Q : Value → Shared → Prop} (e : EnvIs env sc L) (z : Z b L m ld s.heap) (hx : m x = some (.ref l)) (hl : ld l = some (listOf vs.toArray n))
    (hsz : vs.length ≤ 1000)
    (h : ∀ a h' tk, ld a = none → Z b L m (upd ld a (listOf (vs.drop k).toArray 0)) h' → Q (.ref a) { s with heap := h', toks := tk })
    (hn : sc.names.lookup x = some .local := by rfl) (hd : (x == ("__debug__" : Str)) = false := by decide) :
    wpAny (model prog w) A (eval (.Subscript (.Name x px) (.Slice (some (.Constant (.int k) j p1)) none none p2) p3) env) Q E s := by
  refine Subscript_ (ev_loc e z hx ?_ hn hd)
  refine wpAny_Slice (evalPart_some_step (wpAny_Constant_int (evalPart_none_step (evalPart_none_step ?_))))
  refine slice_listK (s := { s with toks := s.toks + 1 }) (z.isList hl) (.int k s.toks) .none ?_ (hsz := by rw [List.size_toArray]; exact Nat.le_trans hsz (by decide))
  have z1 := z.push { cls := .type "slice", data := .fields #[.int k s.toks, .none, .none] }
  have z2 := z1.push { cls := .type "list", data := .seq (slicePick vs.toArray (some k) none none) }
  rw [Heap.size_push] at z2
  refine h _ _ _ ?_ (z2.mono (fun a o q => ?_) fun a o q => ?_)
  · exact z.none1
  · by_cases q1 : a = s.heap.objs.size + 1
    · subst q1; rw [upd_self] at q ⊢; rw [← q, slicePick_from']
    · rw [upd_ne q1] at q ⊢
      rw [upd_ne (ne_of_lt1 (z.lt q))]; exact q
  · rw [upd_ne (ne_of_lt2 (z.blt q))]; exact z.base _ _ q
theorem ev_upto {x : Str} {px p1 p2 p3 : Pos} {l : Addr} {vs : List Value} {n k : Nat} {j : Nat} {Q : Value → Shared → Prop} (e : EnvIs env sc L) (z : Z b L m ld s.heap) (hx : m x = some (.ref l)) (hl : ld l = some (listOf vs.toArray n))
    (hsz : vs.length ≤ 1000)
    (h : ∀ a h' tk, ld a = none → Z b L m (upd ld a (listOf (vs.take k).toArray 0)) h' → Q (.ref a) { s with heap := h', toks := tk })
    (hn : sc.names.lookup x = some .local := by rfl) (hd : (x == ("__debug__" : Str)) = false := by decide) :
    wpAny (model prog w) A (eval (.Subscript (.Name x px) (.Slice none (some (.Constant (.int k) j p1)) none p2) p3) env) Q E s := by
  refine Subscript_ (ev_loc e z hx ?_ hn hd)
  refine wpAny_Slice (evalPart_none_step (evalPart_some_step (wpAny_Constant_int (evalPart_none_step ?_))))
  refine slice_listK (s := { s with toks := s.toks + 1 }) (z.isList hl) .none (.int k s.toks) ?_ (hsz := by rw [List.size_toArray]; exact Nat.le_trans hsz (by decide))
  have z1 := z.push { cls := .type "slice", data := .fields #[.none, .int k s.toks, .none] }
  have z2 := z1.push { cls := .type "list", data := .seq (slicePick vs.toArray none (some k) none) }
  rw [Heap.size_push] at z2
  refine h _ _ _ ?_ (z2.mono (fun a o q => ?_) fun a o q => ?_)
  · exact z.none1
  · by_cases q1 : a = s.heap.objs.size + 1
    · subst q1; rw [upd_self] at q ⊢; rw [← q, slicePick_upto']
    · rw [upd_ne q1] at q ⊢
      rw [upd_ne (ne_of_lt1 (z.lt q))]; exact q
  · rw [upd_ne (ne_of_lt2 (z.blt q))]; exact z.base _ _ q

/-- an int item of a list -/
theorem it_int {value slice : Expr} {l : Addr} {vs : List Value} {n : Nat} {ns : List Int} {k : Int} {u : Tok} {v : Int} {Q : Value → Shared → Prop} (z : Z b L m ld s.heap) (hl : ld l = some (listOf vs.toArray n)) (hi : IntsAre vs ns)
    (hk : ns[k.toNat]? = some v) (h0 : 0 ≤ k) (h1 : k < 1000) (h : ∀ t, Q (.int v t) s)
    (hs : subscripted slice false (.ref l) (.int k u) = operate [.ref l, .int k u] (getItem (.ref l) (.int k u)) := by with_unfolding_all rfl)
    (ht : ∀ r, letTemporaryGo value (.ref l) r = pure () := by intro _; with_unfolding_all rfl) :
    wpAny (model prog w) A (subscriptTail value slice (.ref l) (.int k u)) Q E s := by
  obtain ⟨hlt, hv⟩ := List.getElem?_eq_some_iff.mp hk
  refine item_list_ints (z.isList hl) hi h0 (by omega) (by omega) (fun t => ?_) hs ht
  rw [List.getD_eq_getElem?_getD, hk]; exact h t
end
end Mine

namespace Mine

def New (b : Heap) (a : Addr) : Prop := b.objs.size ≤ a
theorem New.none {b : Heap} {a : Addr} (h : New b a) : b.get? a = none := by
  cases e : b.get? a with
  | none => rfl
  | some o => exact absurd (Heap.lt_size e) (Nat.not_lt.mpr h)
theorem Cx.notSys {K : Frag} {mg mb : Str → Option Value} {b : Heap} (C : Cx K mg mb b) {d : Addr} (h : New b d) : (d == sysModules) = false := by
  have h3 : @LT.lt Nat _ 3 b.objs.size := C.g.lt
  have h4 : @LE.le Nat _ b.objs.size d := h
  have : d ≠ sysModules := by intro q; rw [q] at h4; have : @LE.le Nat _ b.objs.size 1 := h4; omega
  simpa using this

theorem valueAt_stored {K : Type} [DecidableEq K] (kvs : List (K × Value)) (k x : K) (v : Value) : valueAt (stored kvs k v) x = if x = k then some v else valueAt kvs x := by
  unfold stored valueAt
  split
  · rename_i h
    induction kvs with
    | nil => simp at h
    | cons p r ih =>
      obtain ⟨a, u⟩ := p
      by_cases hx : x = k
      · subst hx
        by_cases ha : a = x
        · subst ha; simp
        · simp only [List.any_cons, ha, decide_false, Bool.false_or] at h
          have := ih h
          simp only [if_true] at this
          simp only [List.map_cons, ha, if_false, List.find?_cons, decide_false, if_true]
          exact this
      · simp only [if_neg hx]
        by_cases ha : a = k
        · subst ha
          have hax : ¬ a = x := fun e => hx e.symm
          have hrest : ∀ r : List (K × Value), ((r.map fun kv => if kv.1 = a then (kv.1, v) else kv).find? fun kv => decide (kv.1 = x)).map (·.2) = (r.find? fun kv => decide (kv.1 = x)).map (·.2) := by
            intro r
            induction r with
            | nil => rfl
            | cons q r ih =>
              obtain ⟨c, u'⟩ := q
              by_cases hc : c = a
              · subst hc; simp only [List.map_cons, if_true, List.find?_cons, hax, decide_false]; exact ih
              · by_cases hcx : c = x
                · subst hcx; simp [hc]
                · simp only [List.map_cons, hc, if_false, List.find?_cons, hcx, decide_false]; exact ih
          simp only [List.map_cons, if_true, List.find?_cons, hax, decide_false]
          exact hrest r
        · simp only [List.any_cons, ha, decide_false, Bool.false_or] at h
          have := ih h
          simp only [if_neg hx] at this
          by_cases hax : a = x
          · subst hax; simp [ha]
          · simp only [List.map_cons, ha, if_false, List.find?_cons, hax, decide_false]; exact this
  · rename_i h
    by_cases hx : x = k
    · subst hx
      have : kvs.find? (fun kv => decide (kv.1 = x)) = none := by
        rw [List.find?_eq_none]; intro kv hkv e; exact h (List.any_eq_true.mpr ⟨kv, hkv, e⟩)
      simp [List.find?_append, this]
    · have : ([(k, v)] : List (K × Value)).find? (fun kv => decide (kv.1 = x)) = none := by simp [Ne.symm hx]
      simp [List.find?_append, this, hx]
theorem valueAt_without {K : Type} [DecidableEq K] (kvs : List (K × Value)) (k x : K) : valueAt (without kvs k) x = if x = k then none else valueAt kvs x := by
  unfold without valueAt
  rw [List.find?_filter]
  by_cases hx : x = k
  · subst hx; simp
  · simp only [if_neg hx]
    congr 2
    funext kv
    by_cases h : kv.1 = x
    · subst h; simp [hx]
    · simp [h]
theorem without_length {K : Type} [DecidableEq K] (kvs : List (K × Value)) (k : K) : (without kvs k).length ≤ kvs.length := List.length_filter_le _ _

section
variable {prog : Program} {w : World} {A : Around} {E : Value → Shared → Prop} {s : Shared} {K : Frag} {mg mb : Str → Option Value} {b : Heap} {L : Addr} {m : Str → Option Value} {ld : Ld} {env : Env} {sc : Scope}
  {d : Addr} {o : Obj} {kvs : List (Int × Value)} {i : Int} {t : Tok}

theorem dictAt (z : Z b L m ld s.heap) (hd : ld d = some o) (hk : o.IsDictOf (intKind prog w) kvs) : s.heap.DictOf (intKind prog w) d kvs := Heap.dictOf_iff.mpr ⟨o, z.led _ _ hd, hk⟩

theorem dm_get {pl : Sem Bool} {Q : Value × List Value → Shared → Prop} (z : Z b L m ld s.heap) (hd : ld d = some o) (hk : o.IsDictOf (intKind prog w) kvs) (h : Q (.builtin "dict.get", [.ref d]) s) :
    wpAny (model prog w) A (getMethod (.ref d) "get" pl) Q E s :=
  getMethod_builtin (dictAt z hd hk).typeIs PySem.F.plainAttrs_dict PySem.F.slot_dict_get PySem.F.type_dict_get (dictAt z hd hk).mapOf.noDict h
theorem dm_setdefault {pl : Sem Bool} {Q : Value × List Value → Shared → Prop} (z : Z b L m ld s.heap) (hd : ld d = some o) (hk : o.IsDictOf (intKind prog w) kvs) (h : Q (.builtin "dict.setdefault", [.ref d]) s) :
    wpAny (model prog w) A (getMethod (.ref d) "setdefault" pl) Q E s :=
  getMethod_builtin (dictAt z hd hk).typeIs PySem.F.plainAttrs_dict PySem.F.slot_dict_setdefault PySem.F.type_dict_setdefault (dictAt z hd hk).mapOf.noDict h

theorem d_get {Q : Value → Shared → Prop} (C : Cx K mg mb b) (z : Z b L m ld s.heap) (hd : ld d = some o) (hn : New b d) (hk : o.IsDictOf (intKind prog w) kvs)
    (h : Q ((valueAt kvs i).getD .none) { s with toks := s.toks + 1 }) : wpAny (model prog w) A (call (.builtin "dict.get") [.ref d, .int i t]) Q E s :=
  call_meetsIn PySem.F.slot_dict_get (dictAt z hd hk).typeIs PySem.F.entry_dict_get (PySem.F.args_dict_get_2 _ _) (meets_dict_get (intKind prog w) d (intKind_is prog w i t) (C.notSys hn)) ⟨_, (dictAt z hd hk).mapOf, h⟩
theorem d_in {Q : Value → Shared → Prop} (C : Cx K mg mb b) (z : Z b L m ld s.heap) (hd : ld d = some o) (hn : New b d) (hk : o.IsDictOf (intKind prog w) kvs)
    (h : Q (.bool (valueAt kvs i).isSome) { s with toks := s.toks + 1 }) : wpAny (model prog w) A (compareOp .In (.int i t) (.ref d)) Q E s :=
  wpAny_in_of (intKind_is prog w i t) (C.notSys hn) (dictAt z hd hk).mapOf h
theorem d_notin {Q : Value → Shared → Prop} (C : Cx K mg mb b) (z : Z b L m ld s.heap) (hd : ld d = some o) (hn : New b d) (hk : o.IsDictOf (intKind prog w) kvs)
    (h : Q (.bool (!(valueAt kvs i).isSome)) { s with toks := s.toks + 1 }) : wpAny (model prog w) A (compareOp .NotIn (.int i t) (.ref d)) Q E s :=
  wpAny_notIn_of (intKind_is prog w i t) (C.notSys hn) (dictAt z hd hk).mapOf h
theorem d_set {v : Value} {Q : Unit → Shared → Prop} (z : Z b L m ld s.heap) (hd : ld d = some o) (hn : New b d) (hk : o.IsDictOf (intKind prog w) kvs)
    (h : ∀ h' o', Z b L m (upd ld d o') h' → o'.IsDictOf (intKind prog w) (stored kvs i v) → Q () { s with heap := h', toks := s.toks + 1 }) (hsz : kvs.length ≤ 1000) :
    wpAny (model prog w) A (setItem (.ref d) (.int i t) v) Q E s := by
  refine wpAny_setItem_pairs (intKind_is prog w i t) (dictAt z hd hk) (fun h' hm hs => ?_) (Nat.le_trans hsz (by decide))
  obtain ⟨o', ho', hk'⟩ := Heap.dictOf_iff.mp hm
  exact h h' o' (z.sameBut hd hn.none hs ho') hk'
theorem d_del {Q : Unit → Shared → Prop} (z : Z b L m ld s.heap) (hd : ld d = some o) (hn : New b d) (hk : o.IsDictOf (intKind prog w) kvs) (hthere : (valueAt kvs i).isSome = true)
    (h : ∀ h' o', Z b L m (upd ld d o') h' → o'.IsDictOf (intKind prog w) (without kvs i) → Q () { s with heap := h', toks := s.toks + 1 }) (hsz : kvs.length ≤ 1000) :
    wpAny (model prog w) A (delItem (.ref d) (.int i t)) Q E s := by
  have hD := dictAt (prog := prog) (w := w) z hd hk
  unfold delItem
  try with_reducible refine wpAny_holding ?_
  refine wpAny_bind (wpAny_sequenceKey hD.typeIs (by decide) ?_)
  refine wpAny_bind (wpAny_callSpecial?_slot (name := Str.ofString "__delitem__") hD.typeIs PySem.F.slot_dict_delitem
    (call_meetsIn PySem.F.slot_dict_delitem hD.typeIs PySem.F.entry_dict_delitem (PySem.F.args_dict_delitem_2 _ _) (meets_dict_delitem_pairs (intKind prog w) d (intKind_is prog w i t)) ⟨kvs, hD, Nat.le_trans hsz (by decide), hthere, fun h' hmm hs => ?_⟩))
  obtain ⟨o', ho', hd'⟩ := Heap.dictOf_iff.mp hmm
  exact wpAny_pure (h h' o' (z.sameBut hd hn.none hs ho') hd')

theorem setdefault_pairs {dflt : Value} {Q : Value → Shared → Prop} (hm : s.heap.DictOf (intKind prog w) d kvs)
    (hthere : ∀ v, valueAt kvs i = some v → Q v { s with toks := s.toks + 1 })
    (hnew : valueAt kvs i = none → ∀ h', h'.DictOf (intKind prog w) d (stored kvs i dflt) → Heap.SameBut d s.heap h' → Q dflt { s with heap := h', toks := s.toks + 1 })
    (hsz : kvs.length ≤ sizeLine) : wpAny (model prog w) A (dictSetDefault d (.int i t) dflt) Q E s := by
  have hkey := intKind_is prog w i t
  have hmap := hm.mapOf
  obtain ⟨o, es, ep, ho, hc, hd, hk, hp, hn⟩ := hm
  have hes : es.size ≤ sizeLine := by have e1 := hp.length; have e2 : es.toList.length = es.size := by simp
                                      omega
  unfold dictSetDefault
  try with_reducible refine wpAny_holding ?_
  refine wpAny_bind ((intKind prog w).pyHash hkey ?_)
  refine wpAny_bind (wpAny_dictFind_of (s := { s with toks := s.toks + 1 }) hkey ho hd hk ?_)
  have hfind : ∀ k, findBy (intKind prog w).is es k = valueAt kvs k := by
    intro k
    obtain ⟨o2, es2, ep2, ho2, _, hd2, _, hf2⟩ := hmap
    rw [ho] at ho2; cases ho2; rw [hd] at hd2; cases hd2; exact hf2 k
  have hidx : (es.findIdx? fun e => (intKind prog w).is i e.key) = kvs.findIdx? fun kv => decide (kv.1 = i) := by
    rw [← hp.findIdx i]; obtain ⟨l⟩ := es; simp
  cases hi : es.findIdx? fun e => (intKind prog w).is i e.key with
  | some j =>
    have hfk : valueAt kvs i = (es[j]?).map (·.val) := by rw [← hfind i, findBy_of_findIdx?, hi]
    refine wpAny_bind (wpAny_dictEntries (s := { s with toks := s.toks + 1 }) ho hd ?_)
    cases he : es[j]? with
    | none =>
      exfalso
      have := Array.findIdx?_eq_some_iff_findIdx_eq.mp hi
      have hlt : j < es.size := this.1
      rw [Array.getElem?_eq_getElem hlt] at he
      exact nomatch he
    | some e =>
      rw [he] at hfk
      exact wpAny_bind (wpAny_rule (wpAny_pure (hthere e.val hfk)))
  | none =>
    have hfk : valueAt kvs i = none := by rw [← hfind i, findBy_of_findIdx?, hi]
    have hnot : i ∉ kvs.map (·.1) := not_mem_of_findIdx_none (hidx ▸ hi)
    have hany : ¬ (kvs.any fun kv => decide (kv.1 = i)) = true := by
      rw [List.any_eq_true]; rintro ⟨kv, hkv, he⟩
      exact hnot (List.mem_map.mpr ⟨kv, hkv, of_decide_eq_true he⟩)
    refine wpAny_bind (wpAny_rule (wpAny_bind (wpAny_updateDictKeys (hz := hes) (s := { s with toks := s.toks + 1 }) ho hd (wpAny_pure (hnew hfk _ ⟨_, _, ep + 1, Heap.get?_update_self _ ho (Obj.isFreed_of_dict (Obj.data_mapDictKeys hd _)),
      hc.mapDictKeys _, Obj.data_mapDictKeys hd _, hk.push hkey _, ?_, ?_⟩ (Heap.SameBut.update ..))))))
    · rw [stored, if_neg hany]
      have := hp.append hkey ((intKind prog w).hash i) dflt
      obtain ⟨l⟩ := es
      simpa using this
    · rw [stored, if_neg hany, List.map_append, List.nodup_append]
      refine ⟨hn, by simp, ?_⟩
      intro a ha b hb
      simp only [List.map_cons, List.map_nil, List.mem_singleton] at hb
      subst hb
      exact fun e => hnot (e ▸ ha)

theorem d_setdefault {dflt : Value} {Q : Value → Shared → Prop} (C : Cx K mg mb b) (z : Z b L m ld s.heap) (hd : ld d = some o) (hn : New b d) (hk : o.IsDictOf (intKind prog w) kvs)
    (h : ∀ h' o' kvs' v, Z b L m (upd ld d o') h' → o'.IsDictOf (intKind prog w) kvs' → (valueAt kvs i = some v ∧ kvs' = kvs ∨ v = dflt ∧ kvs' = stored kvs i dflt) → Q v { s with heap := h', toks := s.toks + 1 }) (hsz : kvs.length ≤ 1000) :
    wpAny (model prog w) A (call (.builtin "dict.setdefault") [.ref d, .int i t, dflt]) Q E s := by
  have hD := dictAt (prog := prog) (w := w) z hd hk
  refine call_meetsIn (S := fun A R s => ∃ (_ : s.heap.DictOf (intKind prog w) d kvs), (∀ v, valueAt kvs i = some v → R (.ok (.ret v)) { s with toks := s.toks + 1 }) ∧
      (valueAt kvs i = none → ∀ h', h'.DictOf (intKind prog w) d (stored kvs i dflt) → Heap.SameBut d s.heap h' → R (.ok (.ret dflt)) { s with heap := h', toks := s.toks + 1 }))
    PySem.F.slot_dict_setdefault hD.typeIs PySem.F.entry_dict_setdefault (PySem.F.args_dict_setdefault_3 _ _ _) ?_ ?_
  · refine .of_wp fun A R s ⟨hm, h1, h2⟩ => ?_
    unfold Builtin.«dict.setdefault»
    refine wpAny_bind ?_
    unfold Builtin.Dict.keyAndDefault
    refine wpAny_bind (wpAny_notOrdered_dict hm.typeIs ?_)
    show wpAny _ _ (pure (d, _, some dflt)) _ _ s
    refine wpAny_pure ?_
    show wpAny _ _ (if (d == sysModules) = true then _ else (dictSetDefault d _ dflt >>= _)) _ _ s
    rw [if_neg (by rw [C.notSys hn]; exact Bool.false_ne_true)]
    exact wpAny_bind (setdefault_pairs (hsz := Nat.le_trans hsz (by decide)) hm (fun v hv => wpAny_pure ⟨v, rfl, h1 v hv⟩) fun hn h' hm' hs' => wpAny_pure ⟨dflt, rfl, h2 hn h' hm' hs'⟩)
  · refine ⟨hD, fun v hv => ?_, fun hnone h' hm hs => ?_⟩
    · refine h s.heap o kvs v ?_ hk (.inl ⟨hv, rfl⟩)
      exact z.mono (fun a oa e => by
        by_cases q : a = d
        · subst q; rw [upd_self] at e; cases e; exact hd
        · rw [upd_ne q] at e; exact e) fun a oa e => by
        by_cases q : a = d
        · subst q; rw [hn.none] at e; cases e
        · rw [upd_ne q]; exact z.base _ _ e
    · obtain ⟨o', ho', hk'⟩ := Heap.dictOf_iff.mp hm
      exact h h' o' _ dflt (z.sameBut hd hn.none hs ho') hk' (.inr ⟨rfl, rfl⟩)
end
end Mine

namespace Mine

abbrev Loc := Str → Option Value
def TurnEnd (b : Heap) (L : Addr) (fp : List Addr) (J : Loc → Ld → Prop) (lq : Ld) (s s' : Shared) : Prop :=
  ∃ h₂ tk₂ m₂ lf, s' = { s with heap := h₂, toks := tk₂ } ∧ Z b L m₂ lf h₂ ∧ J m₂ lf ∧ ∀ a ∈ fp, lf a = lq a
def TurnPost (b : Heap) (L : Addr) (fp : List Addr) (J : Loc → Ld → Prop) (lq : Ld) (s : Shared) (Q : Flow → Shared → Prop) (f : Flow) (s' : Shared) : Prop :=
  match f with
  | .ret v => Q (.ret v) s'
  | .brk => Q .next s'
  | _ => TurnEnd b L fp J lq s s'

/-- what the iterator writes -/
def sees (wr : List Addr) (h : Heap) (ld : Ld) : Ld := fun a => if a ∈ wr then h.get? a else ld a
theorem Z.sees {b : Heap} {L : Addr} {m : Loc} {ld : Ld} {h h₁ : Heap} {wr : List Addr} (z : Z b L m ld h) (hL : L ∉ wr) (hwb : ∀ a ∈ wr, b.get? a = none)
    (hk : ∀ a o, a ∉ wr → h.get? a = some o → h₁.get? a = some o) : Z b L m (sees wr h₁ ld) h₁ where
  ns := z.ns.at' fun o e => hk _ o hL e
  led := fun a o e => by
    unfold Mine.sees at e
    split at e
    · exact e
    · exact hk _ _ (by assumption) (z.led _ _ e)
  fr := by unfold Mine.sees; rw [if_neg hL]; exact z.fr
  base := fun a o e => by
    unfold Mine.sees
    split
    · rename_i q; rw [hwb a q] at e; cases e
    · exact z.base _ _ e
  above := z.above

section
variable {prog : Program} {w : World} {A : Around} {s : Shared} {K : Frag} {mg mb : Str → Option Value} {b : Heap} {L : Addr} {m : Str → Option Value} {ld : Ld} {env : Env} {sc : Scope}

theorem never_passes {M : Model} : PassesOwn M A env (fun _ _ => False) := fun _ _ x => x.elim

theorem loop1 {Q : Flow → Shared → Prop} {R : Result → Shared → Prop} {x : Str} {px : Pos} {body : List Stmt} {I : Addr} {fp wr : List Addr} {n : Nat} {P : Nat → Value → Prop} {St : Nat → Heap → Prop}
    (hQ : ∀ f s', Q f s' → R (.ok f) s')
    (W : Walks prog w A I fp wr n P St) (e : EnvIs env sc L) (hx : sc.names.lookup x = some .local)
    (hwb : ∀ a ∈ wr, b.get? a = none) (hL : L ∉ fp) (z : Z b L m ld s.heap) (hin : ∀ a ∈ fp, (ld a).isSome = true) (hall : ∀ i h, St i h → ∀ a ∈ wr, (h.get? a).isSome = true) (hst : St 0 s.heap)
    (J : Nat → Loc → Ld → Prop) (hJ : ∀ i m ld ld', J i m ld → (∀ a, a ∉ wr → ld' a = ld a) → J i m ld') (h0 : J 0 m ld)
    (turn : ∀ i v m₁ lq h₁ tk₁, i < n → P i v → J i m₁ lq → (∀ a ∈ fp, (lq a).isSome = true) → Z b L (fun y => if y = x then some v else m₁ y) lq h₁ →
      wpAny (model prog w) A (execs body env) (TurnPost b L fp (J (i + 1)) lq s Q) (fun _ _ => False) { s with heap := h₁, toks := tk₁ })
    (done : ∀ m₁ lq h₁ tk₁, J n m₁ lq → Z b L m₁ lq h₁ → Q .next { s with heap := h₁, toks := tk₁ }) :
    codeAny (model prog w) A (.forLoop (.Name x px) (.ref I) body [] env) R s := by
  have hLw : L ∉ wr := fun h => hL (W.sub _ h)
  refine codeAny_forLoop
    (fun k s' => ∃ h' tk m' ld' i, s' = { s with heap := h', toks := tk } ∧ St i h' ∧ Z b L m' ld' h' ∧ (∀ a ∈ fp, (ld' a).isSome = true) ∧ J i m' ld' ∧ i ≤ n ∧ k = n + 1 - i) ?_ (n + 1)
    ⟨s.heap, s.toks, m, ld, 0, rfl, hst, z, hin, h0, Nat.zero_le _, rfl⟩
  rintro k s' ⟨h', tk, m', ld', i, rfl, hst', z', hin', hJ', hi, rfl⟩
  by_cases hlt : i < n
  · refine W.item i _ _ _ hlt hst' fun v h₁ tk₁ hP hst₁ hk₁ => ?_
    have z₁ := z'.sees hLw hwb (fun a o q => hk₁ a o q)
    refine wpAny_assign_Name (st_loc e z₁ (fun h₂ z₂ => ?_) hx)
    have hs₂ : ∀ a ∈ fp, ∀ o, h₁.get? a = some o → h₂.get? a = some o := fun a ha o q => by
      have : sees wr h₁ ld' a = some o := by
        unfold sees
        split
        · exact q
        · rename_i hw
          obtain ⟨o', ho'⟩ := Option.isSome_iff_exists.mp (hin' a ha)
          have := hk₁ a o' hw (z'.led _ _ ho')
          rw [q] at this; cases this; exact ho'
      exact z₂.led _ _ this
    have hin₁ : ∀ a ∈ fp, (sees wr h₁ ld' a).isSome = true := fun a ha => by
      unfold sees
      split
      · exact hall _ _ hst₁ a (by assumption)
      · exact hin' a ha
    refine wpAny_mono (turn i v m' _ h₂ _ hlt hP (hJ _ _ _ _ hJ' fun a ha => by unfold sees; rw [if_neg ha]) hin₁ z₂) (fun f s₃ h₃ => ?_) fun _ _ x => x.elim
    have fin : TurnEnd b L fp (J (i + 1)) (sees wr h₁ ld') s s₃ → ∃ m, m < n + 1 - i ∧ ∃ h' tk m' ld' i, s₃ = { s with heap := h', toks := tk } ∧ St i h' ∧ Z b L m' ld' h' ∧ (∀ a ∈ fp, (ld' a).isSome = true) ∧ J i m' ld' ∧ i ≤ n ∧ m = n + 1 - i := by
      rintro ⟨h₄, tk₃, m₂, lf, rfl, z₃, hJ₃, hfp₃⟩
      refine ⟨n + 1 - (i + 1), by omega, h₄, tk₃, m₂, lf, i + 1, rfl, W.frame _ _ _ hst₁ fun a ha o q => ?_, z₃, fun a ha => by rw [hfp₃ a ha]; exact hin₁ a ha, hJ₃, hlt, rfl⟩
      have : sees wr h₁ ld' a = some o := by
        unfold sees
        split
        · exact q
        · rename_i hw
          obtain ⟨o', ho'⟩ := Option.isSome_iff_exists.mp (hin' a ha)
          have := hk₁ a o' hw (z'.led _ _ ho')
          rw [q] at this; cases this; exact ho'
      exact z₃.led _ _ ((hfp₃ a ha).trans this)
    cases f with
    | ret v => exact hQ _ _ h₃
    | brk => exact hQ _ _ h₃
    | next => exact fin h₃
    | cont => exact fin h₃
  · have hin : i = n := by omega
    subst hin
    refine W.done _ _ _ hst' fun h₁ tk₁ hk₁ => wpAny_execs_nil (hQ _ _ ?_)
    have z₁ := z'.sees hLw hwb (fun a o q => hk₁ a o q)
    exact done m' _ h₁ tk₁ (hJ _ _ _ _ hJ' fun a ha => by unfold sees; rw [if_neg ha]) z₁
end
end Mine

namespace Mine

section
variable {prog : Program} {w : World} {A : Around} {s : Shared} {K : Frag} {mg mb : Str → Option Value} {b : Heap} {L : Addr} {m : Str → Option Value} {ld : Ld} {env : Env} {sc : Scope}

theorem Z.newSize (z : Z b L m ld s.heap) : New b s.heap.objs.size := z.bs.size

/-- for x in a list, from its iterator on -/
theorem iter_listI {Q : Flow → Shared → Prop} {x : Str} {px : Pos} {body : List Stmt} {ax : Addr} {items : Array Value} {ep : Nat} {mm : Nat} (r : Room A mm) (e : EnvIs env sc L)
    (z : Z b L m ld s.heap) (hax : ld ax = some (listOf items ep))
    (J : Addr → Nat → Loc → Ld → Prop)
    (h0 : ∀ I ld₁, ld I = none → (∀ a o, ld a = some o → ld₁ a = some o) → J I 0 m ld₁)
    (hJ : ∀ I, ld I = none → ∀ i m ld ld', J I i m ld → (∀ a, a ≠ I → ld' a = ld a) → J I i m ld')
    (turn : ∀ I oI i v m₁ lq h₁ tk₁, ld I = none → lq I = some oI → items[i]? = some v → J I i m₁ lq → lq ax = some (listOf items ep) → Z b L (fun y => if y = x then some v else m₁ y) lq h₁ →
      wpAny (model prog w) A (execs body env) (TurnPost b L [I, ax] (J I (i + 1)) lq s Q) (fun _ _ => False) { s with heap := h₁, toks := tk₁ })
    (done : ∀ m₁ lq h₁ tk₁ I, J I items.size m₁ lq → Z b L m₁ lq h₁ → Q .next { s with heap := h₁, toks := tk₁ })
    (hx : sc.names.lookup x = some .local := by rfl) :
    wpAny (model prog w) A (pyIter (.ref ax)) (fun it s₂ => codeAny (model prog w) A (.forLoop (.Name x px) it body [] env) (fun r s' => match r with | .ok f => Q f s' | .error e => cameBackBy (model prog w) A env (fun _ _ => False) e s') s₂) (fun _ _ => False) s := by
  have hl : Heap.IsList s.heap ax items := z.isList hax
  refine wpAny_pyIter_list hl ?_
  have hne : ax ≠ s.heap.objs.size := ne_of_lt1 (Heap.lt_size (z.led _ _ hax))
  have z₂ := z.push { cls := .type "list_iterator", data := .fields #[.ref ax, .int 0 0] }
  have hI0 : ld s.heap.objs.size = none := z.size_none
  have hIb : b.get? s.heap.objs.size = none := New.none (b := b) (z.bs.size)
  refine loop1 (s := { s with heap := s.heap.push _ }) (fp := [s.heap.objs.size, ax]) (wr := [s.heap.objs.size]) (Q := Q) (fun f s' q => q) (Walks.list (prog := prog) (w := w) r.handled s.heap.objs.size ax hne items) e hx ?_ ?_ z₂ ?_ ?_ ?_
    (fun i m ld => J s.heap.objs.size i m ld ∧ ld ax = some (listOf items ep)) ?_ ?_ ?_ ?_
  · intro a ha; rw [List.mem_singleton.mp ha]; exact hIb
  · intro hm
    rcases List.mem_cons.mp hm with q | q
    · exact absurd z.ns.lt (by rw [q]; exact Nat.lt_irrefl _)
    · exact z.neL hax (List.mem_singleton.mp q).symm
  · intro a ha
    rcases List.mem_cons.mp ha with q | q
    · rw [q, upd_self]; rfl
    · rw [List.mem_singleton.mp q, upd_ne hne, hax]; rfl
  · rintro i h' ⟨⟨o, ho, _⟩, _⟩ a ha
    rw [List.mem_singleton.mp ha, ho]; rfl
  · exact ⟨⟨_, Heap.get?_push_size _ rfl, rfl, rfl⟩, ⟨_, Heap.get?_push_of_some _ (z.led _ _ hax), rfl, ep, rfl⟩⟩
  · rintro i m₁ l₁ l₂ ⟨j1, j2⟩ hk
    exact ⟨hJ _ hI0 i m₁ l₁ l₂ j1 fun a ha => hk a (fun q => ha (List.mem_singleton.mp q)), (hk ax fun q => hne (List.mem_singleton.mp q)).trans j2⟩
  · refine ⟨h0 _ _ hI0 fun a o q => ?_, (upd_ne hne).trans hax⟩
    rw [upd_ne (ne_of_lt1 (Heap.lt_size (z.led _ _ q)))]; exact q
  · rintro i v m₁ lq h₂ tk₂ hi hv ⟨j1, j2⟩ hin z₃
    obtain ⟨oI, hoI⟩ := Option.isSome_iff_exists.mp (hin s.heap.objs.size (by simp))
    refine wpAny_mono (turn s.heap.objs.size oI i v m₁ lq h₂ tk₂ hI0 hoI hv j1 j2 z₃) (fun f s' q => ?_) fun _ _ x => x
    have fin : TurnEnd b L [s.heap.objs.size, ax] (J s.heap.objs.size (i + 1)) lq s s' → TurnEnd b L [s.heap.objs.size, ax] (fun m ld => J s.heap.objs.size (i + 1) m ld ∧ ld ax = some (listOf items ep)) lq s s' := by
      rintro ⟨h₃, tk₃, m₃, lf, rfl, z₄, hj, hf⟩
      exact ⟨h₃, tk₃, m₃, lf, rfl, z₄, ⟨hj, (hf ax (by simp)).trans j2⟩, hf⟩
    cases f with
    | ret v => exact q
    | brk => exact q
    | next => exact fin q
    | cont => exact fin q
  · rintro m₁ lq h₂ tk₂ ⟨j1, _⟩ z₃
    exact done m₁ lq h₂ tk₂ _ j1 z₃

/-- for x in a list, from its iterator on -/
theorem iter_list {Q : Flow → Shared → Prop} {x : Str} {px : Pos} {body : List Stmt} {ax : Addr} {items : Array Value} {ep : Nat} {mm : Nat} (r : Room A mm) (e : EnvIs env sc L)
    (z : Z b L m ld s.heap) (hax : ld ax = some (listOf items ep))
    (J : Nat → Loc → Ld → Prop)
    (h0 : ∀ ld₁, (∀ a o, ld a = some o → ld₁ a = some o) → J 0 m ld₁)
    (hJ : ∀ I, ld I = none → ∀ i m ld ld', J i m ld → (∀ a, a ≠ I → ld' a = ld a) → J i m ld')
    (turn : ∀ I oI i v m₁ lq h₁ tk₁, ld I = none → lq I = some oI → items[i]? = some v → J i m₁ lq → lq ax = some (listOf items ep) → Z b L (fun y => if y = x then some v else m₁ y) lq h₁ →
      wpAny (model prog w) A (execs body env) (TurnPost b L [I, ax] (J (i + 1)) lq s Q) (fun _ _ => False) { s with heap := h₁, toks := tk₁ })
    (done : ∀ m₁ lq h₁ tk₁, J items.size m₁ lq → Z b L m₁ lq h₁ → Q .next { s with heap := h₁, toks := tk₁ })
    (hx : sc.names.lookup x = some .local := by rfl) :
    wpAny (model prog w) A (pyIter (.ref ax)) (fun it s₂ => codeAny (model prog w) A (.forLoop (.Name x px) it body [] env) (fun r s' => match r with | .ok f => Q f s' | .error e => cameBackBy (model prog w) A env (fun _ _ => False) e s') s₂) (fun _ _ => False) s :=
  iter_listI r e z hax (fun _ => J) (fun _ ld₁ _ q => h0 ld₁ q) hJ turn (fun m₁ lq h₁ tk₁ _ => done m₁ lq h₁ tk₁) hx

/-- for x in range(n), from the call on -/
theorem iter_rangeI {Q : Flow → Shared → Prop} {x : Str} {px : Pos} {body : List Stmt} {n : Nat} {ni : Int} {t : Tok} {mm : Nat} (r : Room A mm) (e : EnvIs env sc L) (z : Z b L m ld s.heap) (hni : ni = n) (hnm : n ≤ 1000)
    (J : Addr → Nat → Loc → Ld → Prop)
    (h0 : ∀ I ld₁, ld I = none → (∀ a o, ld a = some o → ld₁ a = some o) → J I 0 m ld₁)
    (hJ : ∀ I, ld I = none → ∀ i m ld ld', J I i m ld → (∀ a, a ≠ I → ld' a = ld a) → J I i m ld')
    (turn : ∀ I oI i t m₁ lq h₁ tk₁, ld I = none → lq I = some oI → i < n → J I i m₁ lq → Z b L (fun y => if y = x then some (.int i t) else m₁ y) lq h₁ →
      wpAny (model prog w) A (execs body env) (TurnPost b L [I] (J I (i + 1)) lq s Q) (fun _ _ => False) { s with heap := h₁, toks := tk₁ })
    (done : ∀ m₁ lq h₁ tk₁ I, J I n m₁ lq → Z b L m₁ lq h₁ → Q .next { s with heap := h₁, toks := tk₁ })
    (hx : sc.names.lookup x = some .local := by rfl) :
    wpAny (model prog w) A (call (.type "range") [.int ni t]) (fun v s₁ => wpAny (model prog w) A (pyIter v) (fun it s₂ => codeAny (model prog w) A (.forLoop (.Name x px) it body [] env)
      (fun r s' => match r with | .ok f => Q f s' | .error e => cameBackBy (model prog w) A env (fun _ _ => False) e s') s₂) (fun _ _ => False) s₁) (fun _ _ => False) s := by
  subst hni
  refine call_range_1 ?_
  have hz := z.push { cls := .type "range", data := .fields #[.int 0 s.toks, .int n t, .int 1 (s.toks + 1)] }
  have hsm : Builtin.Range.small 0 (n : Int) 1 = true := small_one (by decide) (by decide) (by omega) (by omega)
  refine wpAny_pyIter_range (IsRange.new _ _ _ _ _ _ _) hsm ?_
  dsimp only
  have hsz : Builtin.Range.rangeSize 0 (n : Int) 1 = n := by rw [rangeSize_one]; split <;> omega
  rw [hsz]
  have hzz := hz.push { cls := .type "range_iterator", data := .fields #[rawInt 0, rawInt n, rawInt 1] }
  generalize hHH : (s.heap.push { cls := .type "range", data := .fields #[.int 0 s.toks, .int n t, .int 1 (s.toks + 1)] }) = H at hzz ⊢
  have hHs : H.objs.size = s.heap.objs.size + 1 := by rw [← hHH, Heap.size_push]
  have hI0 : ld H.objs.size = none := by rw [hHs]; exact z.none1
  have hIb : b.get? H.objs.size = none := New.none (b := b) (by unfold New; rw [hHs]; exact Nat.le_succ_of_le z.bs.size)
  have W := Walks.range (prog := prog) (w := w) r.handled H.objs.size 0 1 n
  refine loop1 (s := { s with heap := H.push { cls := .type "range_iterator", data := .fields #[rawInt 0, rawInt n, rawInt 1] }, toks := s.toks + 1 + 1 }) (fp := [H.objs.size]) (wr := [H.objs.size]) (Q := Q) (fun f s' q => q) W e hx ?_ ?_ hzz ?_ ?_ ?_ (J H.objs.size) ?_ ?_ ?_ ?_
  · intro a ha; rw [List.mem_singleton.mp ha]; exact hIb
  · intro hm
    have q := List.mem_singleton.mp hm
    exact absurd z.ns.lt (by rw [q, hHs]; exact Nat.not_lt.mpr (Nat.le_succ _))
  · intro a ha; rw [List.mem_singleton.mp ha, upd_self]; rfl
  · intro i h' hh a ha; rw [List.mem_singleton.mp ha, hh]; rfl
  · show IsRangeIter (H.push _) H.objs.size (0 + ((0 : Nat) : Int) * 1) ((n : Int) - ((0 : Nat) : Int)) 1
    have := Heap.get?_push_size H (o := { cls := .type "range_iterator", data := .fields #[rawInt 0, rawInt n, rawInt 1] }) rfl
    simpa using this
  · intro i m₁ l₁ l₂ j1 hk
    exact hJ _ hI0 i m₁ l₁ l₂ j1 fun a ha => hk a (fun q => ha (List.mem_singleton.mp q))
  · refine h0 _ _ hI0 fun a o q => ?_
    rw [upd_ne (by rw [hHs]; exact ne_of_lt2 (z.lt q)), upd_ne (ne_of_lt1 (z.lt q))]; exact q
  · rintro i v m₁ lq h₂ tk₂ hi ⟨t', rfl⟩ j1 hin z₃
    obtain ⟨oI, hoI⟩ := Option.isSome_iff_exists.mp (hin H.objs.size (by simp))
    have e1 : (0 : Int) + (i : Int) * 1 = i := by omega
    rw [e1] at z₃
    exact turn H.objs.size oI i t' m₁ lq h₂ tk₂ hI0 hoI hi j1 z₃
  · intro m₁ lq h₂ tk₂ j1 z₃
    exact done m₁ lq h₂ tk₂ _ j1 z₃
/-- for x in range(n), from the call on -/
theorem iter_range {Q : Flow → Shared → Prop} {x : Str} {px : Pos} {body : List Stmt} {n : Nat} {ni : Int} {t : Tok} {mm : Nat} (r : Room A mm) (e : EnvIs env sc L) (z : Z b L m ld s.heap) (hni : ni = n) (hnm : n ≤ 1000)
    (J : Nat → Loc → Ld → Prop)
    (h0 : ∀ ld₁, (∀ a o, ld a = some o → ld₁ a = some o) → J 0 m ld₁)
    (hJ : ∀ I, ld I = none → ∀ i m ld ld', J i m ld → (∀ a, a ≠ I → ld' a = ld a) → J i m ld')
    (turn : ∀ I oI i t m₁ lq h₁ tk₁, ld I = none → lq I = some oI → i < n → J i m₁ lq → Z b L (fun y => if y = x then some (.int i t) else m₁ y) lq h₁ →
      wpAny (model prog w) A (execs body env) (TurnPost b L [I] (J (i + 1)) lq s Q) (fun _ _ => False) { s with heap := h₁, toks := tk₁ })
    (done : ∀ m₁ lq h₁ tk₁, J n m₁ lq → Z b L m₁ lq h₁ → Q .next { s with heap := h₁, toks := tk₁ })
    (hx : sc.names.lookup x = some .local := by rfl) :
    wpAny (model prog w) A (call (.type "range") [.int ni t]) (fun v s₁ => wpAny (model prog w) A (pyIter v) (fun it s₂ => codeAny (model prog w) A (.forLoop (.Name x px) it body [] env)
      (fun r s' => match r with | .ok f => Q f s' | .error e => cameBackBy (model prog w) A env (fun _ _ => False) e s') s₂) (fun _ _ => False) s₁) (fun _ _ => False) s :=
  iter_rangeI r e z hni hnm (fun _ => J) (fun _ ld₁ _ q => h0 ld₁ q) hJ turn (fun m₁ lq h₁ tk₁ _ => done m₁ lq h₁ tk₁) hx
end
end Mine

namespace Mine

section
variable {prog : Program} {w : World} {A : Around} {s : Shared} {K : Frag} {mg mb : Str → Option Value} {b : Heap} {L : Addr} {m : Str → Option Value} {ld : Ld} {env : Env} {sc : Scope}

/-- for x0, x1 in an owned pair's iterator -/
theorem loop2 {Q : Flow → Shared → Prop} {R : Result → Shared → Prop} {x0 x1 : Str} {p0 p1 pt : Pos} {kt : Nat} {body : List Stmt} {I : Addr} {fp wr : List Addr} {n : Nat} {Pt : Nat → Array Value → Prop} {P : Nat → Value → Value → Prop} {St : Nat → Heap → Prop} {Mid : Nat → Addr → Heap → Prop}
    (hQ : ∀ f s', Q f s' → R (.ok f) s') (hh : A.handled = none)
    (W : WalksT prog w A I fp wr n Pt St Mid) (hP : ∀ i vals, Pt i vals → ∃ v0 v1, vals = #[v0, v1] ∧ P i v0 v1) (e : EnvIs env sc L) (hx0 : sc.names.lookup x0 = some .local) (hx1 : sc.names.lookup x1 = some .local)
    (hwb : ∀ a ∈ wr, b.get? a = none) (hL : L ∉ fp) (z : Z b L m ld s.heap) (hin : ∀ a ∈ fp, (ld a).isSome = true) (hall : ∀ i h, St i h → ∀ a ∈ wr, (h.get? a).isSome = true) (hst : St 0 s.heap)
    (J : Nat → Loc → Ld → Prop) (hJ : ∀ i m ld ld', J i m ld → (∀ a, a ∉ wr → ld' a = ld a) → J i m ld') (h0 : J 0 m ld)
    (turn : ∀ i v0 v1 m₁ lq h₁ tk₁, i < n → P i v0 v1 → J i m₁ lq → (∀ a ∈ fp, (lq a).isSome = true) → Z b L (fun y => if y = x1 then some v1 else if y = x0 then some v0 else m₁ y) lq h₁ →
      wpAny (model prog w) A (execs body env) (TurnPost b L fp (J (i + 1)) lq s Q) (fun _ _ => False) { s with heap := h₁, toks := tk₁ })
    (done : ∀ m₁ lq h₁ tk₁, J n m₁ lq → Z b L m₁ lq h₁ → Q .next { s with heap := h₁, toks := tk₁ }) :
    codeAny (model prog w) A (.forLoop (.Tuple [.Name x0 p0, .Name x1 p1] kt pt) (.ref I) body [] env) R s := by
  have hLw : L ∉ wr := fun h => hL (W.sub _ h)
  refine codeAny_forLoop_any
    (fun k s' => ∃ h' tk m' ld' i, s' = { s with heap := h', toks := tk } ∧ St i h' ∧ Z b L m' ld' h' ∧ (∀ a ∈ fp, (ld' a).isSome = true) ∧ J i m' ld' ∧ i ≤ n ∧ k = n + 1 - i) ?_ (n + 1)
    ⟨s.heap, s.toks, m, ld, 0, rfl, hst, z, hin, h0, Nat.zero_le _, rfl⟩
  rintro k s' ⟨h', tk, m', ld', i, rfl, hst', z', hin', hJ', hi, rfl⟩
  by_cases hlt : i < n
  · refine W.item i _ _ _ hlt hst' fun T vals h₁ tk₁ hPt hTn hTt hMid hk₁ => ?_
    obtain ⟨v0, v1, rfl, hPv⟩ := hP i vals hPt
    refine W.go _ _ _ i T _ _ _ hMid fun h₂ hst₂ hk₂ => ?_
    dsimp only at hk₁ hk₂ hTn ⊢
    have z₂ := z'.sees (h₁ := h₂) hLw hwb (fun a o q e => hk₂ a o q (hk₁ a o q e))
    have hT₂ : h₂.IsTuple T #[v0, v1] := by
      obtain ⟨o, ho, r⟩ := hTt
      exact ⟨o, hk₂ _ _ (W.apart _ _ _ hMid) ho, r⟩
    refine wpAny_assign_Tuple (s := { s with heap := h₂, toks := tk₁ }) hh hT₂ rfl rfl fun h₃ hx₃ => ?_
    have z₃ : Z b L m' (sees wr h₂ ld') h₃ := z₂.ext fun a o q => hx₃ a o (ne_of_lt1 (Heap.lt_size q)) q
    show wpAny _ A (assignInOrder [assign (.Name x0 p0) env, assign (.Name x1 p1) env] [v0, v1]) _ _ _
    refine assignInOrder_cons (wpAny_assign_Name (st_loc e z₃ (fun h₄ z₄ => ?_) hx0))
    refine assignInOrder_cons (wpAny_assign_Name (st_loc e z₄ (fun h₅ z₅ => ?_) hx1))
    refine assignInOrder_nil ?_
    have hseen : ∀ a ∈ fp, ∀ o, h₂.get? a = some o → sees wr h₂ ld' a = some o := fun a ha o q => by
      unfold sees
      split
      · exact q
      · rename_i hw
        obtain ⟨o', ho'⟩ := Option.isSome_iff_exists.mp (hin' a ha)
        have := hk₂ a o' hw (hk₁ a o' hw (z'.led _ _ ho'))
        rw [q] at this; cases this; exact ho'
    have hin₁ : ∀ a ∈ fp, (sees wr h₂ ld' a).isSome = true := fun a ha => by
      unfold sees
      split
      · exact hall _ _ hst₂ a (by assumption)
      · exact hin' a ha
    refine wpAny_mono (turn i v0 v1 m' _ h₅ _ hlt hPv (hJ _ _ _ _ hJ' fun a ha => by unfold sees; rw [if_neg ha]) hin₁ z₅) (fun f s₃ h₃ => ?_) fun _ _ x => x.elim
    have fin : TurnEnd b L fp (J (i + 1)) (sees wr h₂ ld') s s₃ → ∃ m, m < n + 1 - i ∧ ∃ h' tk m' ld' i, s₃ = { s with heap := h', toks := tk } ∧ St i h' ∧ Z b L m' ld' h' ∧ (∀ a ∈ fp, (ld' a).isSome = true) ∧ J i m' ld' ∧ i ≤ n ∧ m = n + 1 - i := by
      rintro ⟨h₄, tk₃, m₂, lf, rfl, z₃, hJ₃, hfp₃⟩
      refine ⟨n + 1 - (i + 1), by omega, h₄, tk₃, m₂, lf, i + 1, rfl, W.frame _ _ _ hst₂ fun a ha o q => ?_, z₃, fun a ha => by rw [hfp₃ a ha]; exact hin₁ a ha, hJ₃, hlt, rfl⟩
      exact z₃.led _ _ ((hfp₃ a ha).trans (hseen a ha o q))
    cases f with
    | ret v => exact hQ _ _ h₃
    | brk => exact hQ _ _ h₃
    | next => exact fin h₃
    | cont => exact fin h₃
  · have hin : i = n := by omega
    subst hin
    refine W.done _ _ _ hst' fun h₁ tk₁ hk₁ => wpAny_execs_nil (hQ _ _ ?_)
    have z₁ := z'.sees hLw hwb (fun a o q => hk₁ a o q)
    exact done m' _ h₁ tk₁ (hJ _ _ _ _ hJ' fun a ha => by unfold sees; rw [if_neg ha]) z₁

/-- for i, x in enumerate(a list), from the call on -/
theorem iter_enumI {Q : Flow → Shared → Prop} {x0 x1 : Str} {p0 p1 pt : Pos} {kt : Nat} {body : List Stmt} {ax : Addr} {items : Array Value} {ep : Nat} {mm : Nat} (r : Room A mm) (e : EnvIs env sc L)
    (z : Z b L m ld s.heap) (hax : ld ax = some (listOf items ep))
    (J : Addr → Addr → Nat → Loc → Ld → Prop)
    (h0 : ∀ I I' ld₁, ld I = none → ld I' = none → (∀ a o, ld a = some o → ld₁ a = some o) → J I I' 0 m ld₁)
    (hJ : ∀ I I', ld I = none → ld I' = none → ∀ i m ld ld', J I I' i m ld → (∀ a, a ≠ I → a ≠ I' → ld' a = ld a) → J I I' i m ld')
    (turn : ∀ I I' oI oI' i t v m₁ lq h₁ tk₁, ld I = none → ld I' = none → lq I = some oI → lq I' = some oI' → items[i]? = some v → J I I' i m₁ lq → lq ax = some (listOf items ep) →
      Z b L (fun y => if y = x1 then some v else if y = x0 then some (.int i t) else m₁ y) lq h₁ →
      wpAny (model prog w) A (execs body env) (TurnPost b L [I, I', ax] (J I I' (i + 1)) lq s Q) (fun _ _ => False) { s with heap := h₁, toks := tk₁ })
    (done : ∀ m₁ lq h₁ tk₁ I I', J I I' items.size m₁ lq → Z b L m₁ lq h₁ → Q .next { s with heap := h₁, toks := tk₁ })
    (hx0 : sc.names.lookup x0 = some .local := by rfl) (hx1 : sc.names.lookup x1 = some .local := by rfl) :
    wpAny (model prog w) A (call (.type "enumerate") [.ref ax]) (fun v s₁ => wpAny (model prog w) A (pyIter v) (fun it s₂ => codeAny (model prog w) A (.forLoop (.Tuple [.Name x0 p0, .Name x1 p1] kt pt) it body [] env)
      (fun r s' => match r with | .ok f => Q f s' | .error e => cameBackBy (model prog w) A env (fun _ _ => False) e s') s₂) (fun _ _ => False) s₁) (fun _ _ => False) s := by
  have hl : Heap.IsList s.heap ax items := z.isList hax
  refine call_enumerate_list hl fun h₂ hen hit hsz hk => ?_
  refine wpAny_pyIter_enum hen ?_
  obtain ⟨oit, hoit, hoc, hod⟩ := id hit
  generalize hh₁ : s.heap = h₁ at *
  have hax1 : @LT.lt Nat _ ax h₁.objs.size := Heap.lt_size (z.led _ _ hax)
  have hle : ax ≠ h₁.objs.size + 1 := ne_of_lt2 hax1
  have hli : ax ≠ h₁.objs.size := ne_of_lt1 hax1
  have hei : h₁.objs.size + 1 ≠ h₁.objs.size := Nat.succ_ne_self _
  have hold : ∀ a o, ld a = some o → a ≠ h₁.objs.size + 1 ∧ a ≠ h₁.objs.size := fun a o q => ⟨ne_of_lt2 (Heap.lt_size (z.led _ _ q)), ne_of_lt1 (Heap.lt_size (z.led _ _ q))⟩
  have nn : ∀ I, (∀ a o, ld a = some o → a ≠ I) → ld I = none := fun I hI => by
    cases q : ld I with
    | none => rfl
    | some o => exact absurd rfl (hI _ _ q)
  have hIb : b.get? (h₁.objs.size + 1) = none := New.none (b := b) (Nat.le_succ_of_le z.bs.size)
  have hIb' : b.get? h₁.objs.size = none := New.none (b := b) z.bs.size
  have hLlt : @LT.lt Nat _ L h₁.objs.size := z.ns.lt
  have z₂ : Z b L m (upd (upd ld h₁.objs.size oit) (h₁.objs.size + 1) { cls := .type "enumerate", dict := none, data := .fields #[.none, .bool false, .ref h₁.objs.size, rawInt 0, .none, .none], slots := #[] }) h₂ :=
    { ns := z.ns.keeps hk
      led := fun a o q => by
        by_cases q1 : a = h₁.objs.size + 1
        · subst q1; rw [upd_self] at q; cases q; exact hen
        · rw [upd_ne q1] at q
          by_cases q2 : a = h₁.objs.size
          · subst q2; rw [upd_self] at q; cases q; exact hoit
          · rw [upd_ne q2] at q; exact hk _ _ (z.led _ _ q)
      fr := by rw [upd_ne (ne_of_lt2 hLlt), upd_ne (ne_of_lt1 hLlt)]; exact z.fr
      base := fun a o q => by
        have := z.base _ _ q
        rw [upd_ne (hold _ _ this).1, upd_ne (hold _ _ this).2]; exact this
      above := z.above }
  have W := WalksT.enumerate (prog := prog) (w := w) r.handled (h₁.objs.size + 1) h₁.objs.size ax hei hle hli items
  refine loop2 (s := { s with heap := h₂ }) (fp := [h₁.objs.size + 1, h₁.objs.size, ax]) (wr := [h₁.objs.size + 1, h₁.objs.size]) (P := fun i v0 v1 => ∃ t, v0 = .int i t ∧ items[i]? = some v1) (Q := Q) (fun f s' q => q) r.handled W ?_ e hx0 hx1 ?_ ?_ z₂ ?_ ?_ ?_
    (fun i m ld => J (h₁.objs.size + 1) h₁.objs.size i m ld ∧ ld ax = some (listOf items ep)) ?_ ?_ ?_ ?_
  · rintro i vals ⟨t, x, hx, rfl⟩; exact ⟨_, _, rfl, t, rfl, hx⟩
  · intro a ha
    rcases List.mem_cons.mp ha with q | q
    · rw [q]; exact hIb
    · rw [List.mem_singleton.mp q]; exact hIb'
  · intro hm
    rcases List.mem_cons.mp hm with q | q
    · exact ne_of_lt2 hLlt q
    · rcases List.mem_cons.mp q with q | q
      · exact ne_of_lt1 hLlt q
      · exact z.neL hax (List.mem_singleton.mp q).symm
  · intro a ha
    rcases List.mem_cons.mp ha with q | q
    · rw [q, upd_self]; rfl
    · rcases List.mem_cons.mp q with q | q
      · rw [q, upd_ne hei.symm, upd_self]; rfl
      · rw [List.mem_singleton.mp q, upd_ne hle, upd_ne hli, hax]; rfl
  · rintro i h' ⟨⟨old, h1⟩, ⟨o, h2, _⟩, _⟩ a ha
    rcases List.mem_cons.mp ha with q | q
    · rw [q, h1]; rfl
    · rw [List.mem_singleton.mp q, h2]; rfl
  · exact ⟨⟨_, by simpa using hen⟩, hit, ⟨_, hk _ _ (z.led _ _ hax), rfl, ep, rfl⟩⟩
  · rintro i m₁ l₁ l₂ ⟨j1, j2⟩ hkk
    exact ⟨hJ _ _ (nn _ fun a o q => (hold a o q).1) (nn _ fun a o q => (hold a o q).2) i m₁ l₁ l₂ j1 fun a h1 h2 => hkk a (fun q => by rcases List.mem_cons.mp q with q | q; exact h1 q; exact h2 (List.mem_singleton.mp q)),
      (hkk ax fun q => by rcases List.mem_cons.mp q with q | q; exact hle q; exact hli (List.mem_singleton.mp q)).trans j2⟩
  · refine ⟨h0 _ _ _ (nn _ fun a o q => (hold a o q).1) (nn _ fun a o q => (hold a o q).2) fun a o q => ?_, by rw [upd_ne hle, upd_ne hli]; exact hax⟩
    rw [upd_ne (hold _ _ q).1, upd_ne (hold _ _ q).2]; exact q
  · rintro i v0 v1 m₁ lq h₃ tk₃ hi ⟨t, rfl, hv⟩ ⟨j1, j2⟩ hin z₃
    obtain ⟨oI, hoI⟩ := Option.isSome_iff_exists.mp (hin (h₁.objs.size + 1) (by simp))
    obtain ⟨oI', hoI'⟩ := Option.isSome_iff_exists.mp (hin h₁.objs.size (by simp))
    refine wpAny_mono (turn _ _ oI oI' i t v1 m₁ lq h₃ tk₃ (nn _ fun a o q => (hold a o q).1) (nn _ fun a o q => (hold a o q).2) hoI hoI' hv j1 j2 z₃) (fun f s' q => ?_) fun _ _ x => x
    have fin : TurnEnd b L [h₁.objs.size + 1, h₁.objs.size, ax] (J (h₁.objs.size + 1) h₁.objs.size (i + 1)) lq s s' → TurnEnd b L [h₁.objs.size + 1, h₁.objs.size, ax] (fun m ld => J (h₁.objs.size + 1) h₁.objs.size (i + 1) m ld ∧ ld ax = some (listOf items ep)) lq { s with heap := h₂ } s' := by
      rintro ⟨h₃, tk₃, m₃, lf, rfl, z₄, hj, hf⟩
      exact ⟨h₃, tk₃, m₃, lf, rfl, z₄, ⟨hj, (hf ax (by simp)).trans j2⟩, hf⟩
    cases f with
    | ret v => exact q
    | brk => exact q
    | next => exact fin q
    | cont => exact fin q
  · rintro m₁ lq h₃ tk₃ ⟨j1, _⟩ z₃
    exact done m₁ lq h₃ tk₃ _ _ j1 z₃
/-- for i, x in enumerate(a list), from the call on -/
theorem iter_enum {Q : Flow → Shared → Prop} {x0 x1 : Str} {p0 p1 pt : Pos} {kt : Nat} {body : List Stmt} {ax : Addr} {items : Array Value} {ep : Nat} {mm : Nat} (r : Room A mm) (e : EnvIs env sc L)
    (z : Z b L m ld s.heap) (hax : ld ax = some (listOf items ep))
    (J : Nat → Loc → Ld → Prop)
    (h0 : ∀ ld₁, (∀ a o, ld a = some o → ld₁ a = some o) → J 0 m ld₁)
    (hJ : ∀ I I', ld I = none → ld I' = none → ∀ i m ld ld', J i m ld → (∀ a, a ≠ I → a ≠ I' → ld' a = ld a) → J i m ld')
    (turn : ∀ I I' oI oI' i t v m₁ lq h₁ tk₁, ld I = none → ld I' = none → lq I = some oI → lq I' = some oI' → items[i]? = some v → J i m₁ lq → lq ax = some (listOf items ep) →
      Z b L (fun y => if y = x1 then some v else if y = x0 then some (.int i t) else m₁ y) lq h₁ →
      wpAny (model prog w) A (execs body env) (TurnPost b L [I, I', ax] (J (i + 1)) lq s Q) (fun _ _ => False) { s with heap := h₁, toks := tk₁ })
    (done : ∀ m₁ lq h₁ tk₁, J items.size m₁ lq → Z b L m₁ lq h₁ → Q .next { s with heap := h₁, toks := tk₁ })
    (hx0 : sc.names.lookup x0 = some .local := by rfl) (hx1 : sc.names.lookup x1 = some .local := by rfl) :
    wpAny (model prog w) A (call (.type "enumerate") [.ref ax]) (fun v s₁ => wpAny (model prog w) A (pyIter v) (fun it s₂ => codeAny (model prog w) A (.forLoop (.Tuple [.Name x0 p0, .Name x1 p1] kt pt) it body [] env)
      (fun r s' => match r with | .ok f => Q f s' | .error e => cameBackBy (model prog w) A env (fun _ _ => False) e s') s₂) (fun _ _ => False) s₁) (fun _ _ => False) s :=
  iter_enumI r e z hax (fun _ _ => J) (fun _ _ ld₁ _ _ q => h0 ld₁ q) hJ turn (fun m₁ lq h₁ tk₁ _ _ => done m₁ lq h₁ tk₁) hx0 hx1
end
end Mine

namespace Mine

section
variable {prog : Program} {w : World} {A : Around} {E : Value → Shared → Prop} {s : Shared} {K : Frag} {mg mb : Str → Option Value} {b : Heap} {L : Addr} {m : Str → Option Value} {ld : Ld} {env : Env} {sc : Scope}

theorem l_set {l : Addr} {vs : List Value} {n : Nat} {k : Int} {t : Tok} {v : Value} {Q : Unit → Shared → Prop} (z : Z b L m ld s.heap) (hl : ld l = some (listOf vs.toArray n)) (hn : New b l)
    (h0 : 0 ≤ k) (hk : k < vs.length) (hsz : vs.length ≤ 1000)
    (h : ∀ h', Z b L m (upd ld l (listOf (vs.set k.toNat v).toArray n)) h' → Q () { s with heap := h' }) :
    wpAny (model prog w) A (setItem (.ref l) (.int k t) v) Q E s := by
  have hL := z.isList hl
  have ho := z.led _ _ hl
  unfold setItem
  try with_reducible refine wpAny_holding ?_
  first | refine wpAny_bind (wpAny_pure ?_) | skip
  refine wpAny_bind (wpAny_sequenceKey hL.typeIs (by decide) ?_)
  refine wpAny_bind (wpAny_callSpecial?_slot (name := Str.ofString "__setitem__") hL.typeIs slot_list_setitem
    (wpAny_call_entry slot_list_setitem hL.typeIs entry_list_setitem ?_ (args_list_setitem _ _ _)))
  show wpAny _ _ (Builtin.List.listSubscript? (.int k t) >>= _) _ _ s
  refine wpAny_bind (wpAny_listSubscript_int (fitsIndex_of h0 (by omega)) ?_)
  obtain ⟨j, rfl⟩ := Int.eq_ofNat_of_zero_le h0
  have hj : j < vs.toArray.size := by rw [List.size_toArray]; omega
  have hx' : vs.toArray[j]? = some vs.toArray[j] := Array.getElem?_eq_getElem hj
  show wpAny _ _ ((seqItemAt l j >>= fun r => pure (r.map (j, ·))) >>= _) _ _ s
  refine wpAny_bind (wpAny_bind (wpAny_seqItemAt ho rfl (wpAny_pure ?_)))
  rw [hx']
  show wpAny _ _ (setSeqItemAt l j v >>= _) _ _ s
  have hobj : Obj.mapSeq (·.setIfInBounds j v) (listOf vs.toArray n) = listOf (vs.set j v).toArray n := by
    simp [Obj.mapSeq]
  have hfin : (s.heap.update l (Obj.mapSeq (·.setIfInBounds j v))).get? l = some (listOf (vs.set j v).toArray n) := by
    rw [← hobj]; exact Heap.get?_update_self _ ho (by rw [hobj]; rfl)
  refine wpAny_bind (wpAny_setSeqItemAt ho rfl ?_)
  have hz := z.sameBut hl hn.none (Heap.SameBut.update ..) hfin
  first
    | exact wpAny_bind (wpAny_pure (wpAny_pure ⟨.none, rfl, wpAny_pure (h _ hz)⟩))
    | exact wpAny_pure ⟨.none, rfl, wpAny_pure (h _ hz)⟩

theorem as_sub {o i : Expr} {pos : Pos} {v : Value} {Q : Unit → Shared → Prop}
    (h : wpAny (model prog w) A (eval o env) (fun ov s₁ => wpAny (model prog w) A (eval i env) (fun iv s₂ => wpAny (model prog w) A (setItem ov iv v) Q E s₂) E s₁) E s) :
    wpAny (model prog w) A (assign (.Subscript o i pos) env v) Q E s := by
  rw [arm_assign_Subscript]
  exact wpAny_bind (wpAny_holding (wpAny_mono h (fun ov s₁ h₁ => wpAny_bind (wpAny_holding (wpAny_mono h₁ (fun iv s₂ h₂ => wpAny_bind (wpAny_standAt (wpAny_bind (wpAny_holding (wpAny_mono h₂ (fun _ s₃ h₃ => wpAny_releaseD h₃) fun _ _ x => x))))) fun _ _ x => x))) fun _ _ x => x))

theorem EnvIs.block (e : EnvIs env sc L) : env.blockKind = .function := by unfold Env.blockKind; rw [e.fn]; rfl

theorem swapped_sub {a i a' i' u v : Expr} {p p' tp vp : Pos} {k kv : Nat} (e : EnvIs env sc L) :
    swappedStores [.Tuple [.Subscript a i p, .Subscript a' i' p'] k tp] (.Tuple [u, v] kv vp) env = pure none := by
  unfold swappedStores
  simp [e.block]

theorem Z.isTup (z : Z b L m ld s.heap) {l : Addr} {its : Array Value} {n : Nat} (hl : ld l = some { cls := .type "tuple", data := .seq its n }) : s.heap.IsTuple l its := ⟨_, z.led _ _ hl, rfl, n, rfl⟩

/-- x[..], y[..] = (u, v) -/
theorem as_two {a i a' i' u v : Expr} {p p' tp vp pos : Pos} {k kv : Nat} {Q : Flow → Shared → Prop} {mm : Nat} (r : Room A mm) (e : EnvIs env sc L)
    (h : wpAny (model prog w) A (spliced (backTo vp (starEach [u, v] env))) (fun vs s₁ => ∃ v1 v2 m ld, vs = [v1, v2] ∧ Z b L m ld s₁.heap ∧ ∀ h₁, Z b L m ld h₁ →
      wpAny (model prog w) A (assign (.Subscript a i p) env v1) (fun _ s₂ => wpAny (model prog w) A (assign (.Subscript a' i' p') env v2) (fun _ s₃ => Q .next s₃) E s₂) E { s₁ with heap := h₁ }) E s)
    (hsw : swapsWithSole [.Tuple [.Subscript a i p, .Subscript a' i' p'] k tp] (.Tuple [u, v] kv vp) pos.line env = pure false := by rfl) :
    wpAny (model prog w) A (exec (.Assign [.Tuple [.Subscript a i p, .Subscript a' i' p'] k tp] (.Tuple [u, v] kv vp) pos) env) Q E s := by
  refine Assign_Tuple (wpAny_Tuple (wpAny_mono h (fun vs s₁ q => ?_) fun _ _ x => x)) hsw (swapped_sub e)
  obtain ⟨v1, v2, m, ld, rfl, z₁, h⟩ := q
  refine ⟨(by show 2 ≤ sizeLine; decide), ?_⟩
  have z₂ := z₁.push { cls := .type "tuple", data := .seq [v1, v2].toArray }
  refine wpAny_assign_Tuple (s := { s₁ with heap := s₁.heap.push { cls := .type "tuple", data := .seq [v1, v2].toArray } }) r.handled (items := #[v1, v2]) ⟨_, z₂.led _ _ upd_self, rfl, _, rfl⟩ rfl rfl fun h₃ hx₃ => ?_
  have z₃ : Z b L m ld h₃ := (z₁.ext fun _ _ q => Heap.get?_push_of_some _ q).ext fun a o q => hx₃ a o (ne_of_lt1 (Heap.lt_size q)) q
  show wpAny _ A (assignInOrder [assign (.Subscript a i p) env, assign (.Subscript a' i' p') env] [v1, v2]) _ _ _
  exact assignInOrder_cons (wpAny_mono (h h₃ z₃) (fun _ s₁ h₁ => assignInOrder_cons (wpAny_mono h₁ (fun _ s₂ h₂ => assignInOrder_nil h₂) fun _ _ x => x)) fun _ _ x => x)
end
end Mine

namespace Mine

def keyOf (e : Int × Value) : Int := match e.2 with | .int k _ => k | _ => 0
/-- the elements of a set of ints, in the table's order -/
def Els (l : List (Int × Value)) : Prop := ∀ e ∈ l, ∃ k t, e = (hashInt k, .int k t)
theorem Els.perm {l l' : List (Int × Value)} (h : Els l) (p : l'.Perm l) : Els l' := fun e he => h e (p.mem_iff.mp he)
theorem Els.elems {prog : Program} {w : World} {l : List (Int × Value)} (h : Els l) : ElemsOf (intKind prog w) l := fun e he => by
  obtain ⟨k, t, rfl⟩ := h e he
  exact ⟨⟨k, intKind_is prog w k t, rfl⟩, rfl⟩
theorem Els.is {prog : Program} {w : World} {l : List (Int × Value)} (h : Els l) {e : Int × Value} (he : e ∈ l) (k : Int) : (intKind prog w).is k e.2 = decide (keyOf e = k) := by
  obtain ⟨k', t, rfl⟩ := h e he
  rw [KeyKind.is_eq_decide (intKind_is prog w k' t) k]
  show decide (k = k') = decide (k' = k)
  rw [Bool.eq_iff_iff]; simp only [decide_eq_true_eq]; exact eq_comm

abbrev setObj (es : Array (Int × Value)) (ep : Nat) (t : SetTable) : Obj := { cls := .type "set", dict := none, data := .set es ep t }

def addPure (t : SetTable) (es : Array (Int × Value)) (h : Int) (x : Value) : Array (Int × Value) × SetTable × Nat :=
  if (!(layNew t es h x).2.2.1 && (layNew t es h x).2.1.tooFull) = true then
    ((relayAll (layNew t es h x).2.1 (layNew t es h x).1 (SetTable.grown (layNew t es h x).1.size)).1, (relayAll (layNew t es h x).2.1 (layNew t es h x).1 (SetTable.grown (layNew t es h x).1.size)).2.1, 2)
  else ((layNew t es h x).1, (layNew t es h x).2.1, 1)
theorem addPure_perm (t : SetTable) (es : Array (Int × Value)) (h : Int) (x : Value) : (addPure t es h x).1.toList.Perm (es.toList ++ [(h, x)]) := by
  have := layNew_perm t es h x
  rw [Array.toList_push] at this
  unfold addPure
  split
  · exact (relayAll_perm _ _ _).trans this
  · exact this
theorem addPure_fits (t : SetTable) (es : Array (Int × Value)) (h : Int) (x : Value) : (addPure t es h x).2.1.fits (addPure t es h x).1.size = true := by
  unfold addPure
  split
  · exact relayAll_fits _ _ _
  · exact layNew_fits _ _ _ _

theorem findIdx_key {prog : Program} {w : World} {es : Array (Int × Value)} (h : Els es.toList) (k : Int) : es.toList.findIdx? (fun e => (intKind prog w).is k e.2) = (es.toList.map keyOf).findIdx? (fun x => decide (x = k)) := by
  generalize es.toList = l at h
  induction l with
  | nil => rfl
  | cons e l ih =>
    simp only [List.findIdx?_cons, List.map_cons]
    rw [h.is (.head _) k, ih fun e he => h e (.tail _ he)]

section
variable {prog : Program} {w : World} {A : Around} {E : Value → Shared → Prop} {s : Shared} {K : Frag} {mg mb : Str → Option Value} {b : Heap} {L : Addr} {m : Str → Option Value} {ld : Ld} {env : Env} {sc : Scope}
  {a : Addr} {es : Array (Int × Value)} {ep : Nat} {t : SetTable} {k : Int} {tk : Tok}

theorem setOf_of (z : Z b L m ld s.heap) (ha : ld a = some (setObj es ep t)) (hE : Els es.toList) (hf : t.fits es.size = true) (hb : es.size < 1000) :
    s.heap.SetOf (intKind prog w) a (fun k => decide (k ∈ es.toList.map keyOf)) es.size :=
  ⟨_, es, ep, t, z.led _ _ ha, ⟨rfl, rfl, rfl⟩, rfl, hE.elems, fun k => by
    rw [decide_eq_true_eq, List.mem_map]
    constructor
    · rintro ⟨e, he, q⟩; exact ⟨e, he, by rw [hE.is he]; exact decide_eq_true q⟩
    · rintro ⟨e, he, q⟩; exact ⟨e, he, by rw [hE.is he] at q; exact of_decide_eq_true q⟩, Nat.lt_trans hb (by decide), hf, rfl⟩

theorem s_in {Q : Value → Shared → Prop} (z : Z b L m ld s.heap) (ha : ld a = some (setObj es ep t)) (hE : Els es.toList) (hf : t.fits es.size = true) (hb : es.size < 1000)
    (h : Q (.bool (decide (k ∈ es.toList.map keyOf))) { s with toks := s.toks + 1 }) : wpAny (model prog w) A (compareOp .In (.int k tk) (.ref a)) Q E s :=
  wpAny_inSet_of (intKind_is prog w k tk) rfl (setOf_of z ha hE hf hb) h
theorem s_notin {Q : Value → Shared → Prop} (z : Z b L m ld s.heap) (ha : ld a = some (setObj es ep t)) (hE : Els es.toList) (hf : t.fits es.size = true) (hb : es.size < 1000)
    (h : Q (.bool (!decide (k ∈ es.toList.map keyOf))) { s with toks := s.toks + 1 }) : wpAny (model prog w) A (compareOp .NotIn (.int k tk) (.ref a)) Q E s :=
  wpAny_notInSet_of (intKind_is prog w k tk) rfl (setOf_of z ha hE hf hb) h
theorem s_len {Q : Value → Shared → Prop} (z : Z b L m ld s.heap) (ha : ld a = some (setObj es ep t)) (hf : t.fits es.size = true) (hb : es.size < 1000)
    (h : ∀ t' tk', Q (.int es.size t') { s with toks := tk' }) : wpAny (model prog w) A (call (.builtin "len") [.ref a]) Q E s :=
  call_len_set (z.led _ _ ha) ⟨rfl, rfl, rfl⟩ rfl hf (by omega) (h _ _)
theorem sm_add {pl : Sem Bool} {Q : Value × List Value → Shared → Prop} (z : Z b L m ld s.heap) (ha : ld a = some (setObj es ep t)) (h : Q (.builtin "set.add", [.ref a]) s) :
    wpAny (model prog w) A (getMethod (.ref a) "add" pl) Q E s :=
  getMethod_builtin (T := "set") ⟨_, z.led _ _ ha, rfl⟩ F.plainAttrs_set F.slot_set_add F.type_set_add (fun c q => by cases q; exact ⟨_, z.led _ _ ha, rfl⟩) h
theorem sm_discard {pl : Sem Bool} {Q : Value × List Value → Shared → Prop} (z : Z b L m ld s.heap) (ha : ld a = some (setObj es ep t)) (h : Q (.builtin "set.discard", [.ref a]) s) :
    wpAny (model prog w) A (getMethod (.ref a) "discard" pl) Q E s :=
  getMethod_builtin (T := "set") ⟨_, z.led _ _ ha, rfl⟩ F.plainAttrs_set F.slot_set_discard F.type_set_discard (fun c q => by cases q; exact ⟨_, z.led _ _ ha, rfl⟩) h

theorem storeSet_Z {es' : Array (Int × Value)} {t' : SetTable} {Q : Unit → Shared → Prop} (z : Z b L m ld s.heap) (ha : ld a = some (setObj es ep t)) (hn : New b a) (hb : es'.size ≤ 1000)
    (h : ∀ h', Z b L m (upd ld a (setObj es' (ep + 1) t')) h' → Q () { s with heap := h' }) : wpAny (model prog w) A (storeSet a es' t') Q E s := by
  refine wpAny_storeSet_of (z.led _ _ ha) rfl (h _ ?_) (Nat.le_trans hb (by decide))
  refine z.sameBut ha hn.none (Heap.SameBut.update ..) ?_
  have := Heap.get?_update_self (Obj.putSet es' t') (z.led _ _ ha) (by rw [putSet_of es' t' rfl]; rfl)
  rw [putSet_of es' t' rfl] at this; exact this

theorem s_add {Q : Value → Shared → Prop} (z : Z b L m ld s.heap) (ha : ld a = some (setObj es ep t)) (hn : New b a) (hE : Els es.toList) (hf : t.fits es.size = true) (hb : es.size < 900)
    (hold : k ∈ es.toList.map keyOf → ∀ tk', Q .none { s with toks := tk' })
    (hnew : k ∉ es.toList.map keyOf → ∀ h' ep' tk', Z b L m (upd ld a (setObj (addPure t es (hashInt k) (.int k tk)).1 ep' (addPure t es (hashInt k) (.int k tk)).2.1)) h' → Q .none { s with heap := h', toks := tk' }) :
    wpAny (model prog w) A (call (.builtin "set.add") [.ref a, .int k tk]) Q E s := by
  have hkey := intKind_is prog w k tk
  have hT : s.TypeIs (.ref a) "set" := ⟨_, z.led _ _ ha, rfl⟩
  refine wpAny_call_entry F.slot_set_add hT F.entry_set_add ?_ (F.args_set_add_2 _ _)
  unfold Builtin.«set.add» Builtin.Frozenset.oneOther
  simp only [List.isEmpty_nil, bind_assoc]
  unfold Builtin.Frozenset.addrOf setAdd
  refine wpAny_bind (wpAny_pure ?_)
  try dsimp only
  refine wpAny_bind (wpAny_pure ?_)
  try dsimp only
  refine wpAny_bind ?_
  refine wpAny_holding ?_
  refine wpAny_bind ((intKind prog w).pyHash hkey ?_)
  have fin : ∀ s' (Q' : Value → Shared → Prop), Q' .none s' → wpAny (model prog w) A.in1 (ret Value.none) (fun fin s' => ∃ r, fin = .done (.ret r) ∧ Q' r s') E s' := fun s' Q' q => wpAny_pure ⟨_, rfl, q⟩
  unfold setAddHashed setAddHashedIn
  have hb' : es.size < scanBound := Nat.lt_trans hb (by decide)
  refine wpAny_holding (wpAny_bind (wpAny_setState_of (s := { s with toks := s.toks + 1 }) (z.led _ _ ha) rfl hf ?_))
  dsimp only
  rw [byScan_of (prog := prog) (w := w) rfl hb' hE.elems]
  simp only [↓reduceIte]
  unfold setAddByScan
  refine wpAny_bind ?_
  refine wpAny_bind (wpAny_rule ?_)
  refine wpAny_bind (wpAny_setScan_of hkey (z.led _ _ ha) rfl hf hE.elems ?_)
  rw [findIdx_key hE]
  cases hr : List.findIdx? (fun x => decide (x = k)) (es.toList.map keyOf) with
  | some j =>
    dsimp only
    obtain ⟨hj, hpj, _⟩ := List.findIdx?_eq_some_iff_getElem.mp hr
    have hmem : k ∈ es.toList.map keyOf := of_decide_eq_true hpj ▸ List.getElem_mem hj
    exact wpAny_pure (wpAny_pure (fin _ _ (hold hmem _)))
  | none =>
    dsimp only
    have hnot : k ∉ es.toList.map keyOf := fun hm => by
      have := List.findIdx?_eq_none_iff.mp hr k hm
      simp at this
    have hgw : ∀ (b : Bool) {s₁ : Shared} {Q' : Unit → Shared → Prop}, Q' () s₁ → wpAny (model prog w) A.in1 (match b with | true => rule "set.scan.the-table-gave-way" | false => pure ()) Q' E s₁ :=
      fun b s₁ Q' hq => by cases b <;> first | exact wpAny_pure hq | exact wpAny_rule hq
    have hnew' := hnew hnot
    have hperm := layNew_perm t es (hashInt k) (.int k tk)
    rw [Array.toList_push] at hperm
    unfold addPure at hnew'
    rw [show hashInt k = (intKind prog w).hash k from rfl] at hnew' hperm
    generalize hLN : layNew t es ((intKind prog w).hash k) (.int k tk) = LN at hnew' hperm ⊢
    obtain ⟨es1, t1, wasDummy, gave⟩ := LN
    dsimp only at hnew' hperm ⊢
    have hsz1 : es1.size = es.size + 1 := by rw [← Array.length_toList, hperm.length_eq, List.length_append, Array.length_toList]; rfl
    refine wpAny_bind (hgw _ ?_)
    have tail : ∀ t2, t2 = t1 → wpAny (model prog w) A.in1 (do
        storeSet a es1 t2
        if (!wasDummy && t2.tooFull) = true then do
            (match (relayAll t2 es1 (SetTable.grown es1.size)).2.2 with | true => rule "set.scan.the-table-gave-way" | false => pure ())
            storeSet a (relayAll t2 es1 (SetTable.grown es1.size)).1 (relayAll t2 es1 (SetTable.grown es1.size)).2.1
            pure (some true)
          else pure (some true)) (fun r s₂ => ∃ h₂ ep₂, s₂ = { s with heap := h₂, toks := s.toks + 1 } ∧ r = some true ∧ Z b L m (upd ld a (setObj (if (!wasDummy && t1.tooFull) = true then ((relayAll t1 es1 (SetTable.grown es1.size)).1, (relayAll t1 es1 (SetTable.grown es1.size)).2.1, 2) else (es1, t1, 1)).1 ep₂
            (if (!wasDummy && t1.tooFull) = true then ((relayAll t1 es1 (SetTable.grown es1.size)).1, (relayAll t1 es1 (SetTable.grown es1.size)).2.1, 2) else (es1, t1, 1)).2.1)) h₂) E { s with toks := s.toks + 1 } := by
      rintro t2 rfl
      refine wpAny_bind (storeSet_Z (s := { s with toks := s.toks + 1 }) z ha hn (by omega) fun h₁ z₁ => ?_)
      split
      · have hsz2 : (relayAll t2 es1 (SetTable.grown es1.size)).1.size = es1.size := by
          rw [← Array.length_toList, (relayAll_perm t2 es1 (SetTable.grown es1.size)).length_eq, Array.length_toList]
        refine wpAny_bind (hgw _ ?_)
        refine wpAny_bind (storeSet_Z (s := { s with heap := h₁, toks := s.toks + 1 }) z₁ upd_self hn (by omega) fun h₂ z₂ => ?_)
        refine wpAny_pure ⟨h₂, ep + 1 + 1, rfl, rfl, z₂.mono (fun c o q => ?_) fun c o q => ?_⟩
        · by_cases hc : c = a
          · subst hc; rw [upd_self] at q ⊢; exact q
          · rw [upd_ne hc] at q ⊢; rw [upd_ne hc]; exact q
        · rw [upd_ne (fun e => by rw [e, hn.none] at q; cases q)]; exact z.base _ _ q
      · exact wpAny_pure ⟨h₁, ep + 1, rfl, rfl, z₁⟩
    have fin2 : ∀ (r : Option Bool) s₂, (∃ h₂ ep₂, s₂ = { s with heap := h₂, toks := s.toks + 1 } ∧ r = some true ∧ Z b L m (upd ld a (setObj (if (!wasDummy && t1.tooFull) = true then ((relayAll t1 es1 (SetTable.grown es1.size)).1, (relayAll t1 es1 (SetTable.grown es1.size)).2.1, 2) else (es1, t1, 1)).1 ep₂
            (if (!wasDummy && t1.tooFull) = true then ((relayAll t1 es1 (SetTable.grown es1.size)).1, (relayAll t1 es1 (SetTable.grown es1.size)).2.1, 2) else (es1, t1, 1)).2.1)) h₂) → r = some true ∧ Q .none s₂ := by
      rintro r s₂ ⟨h₂, ep₂, rfl, rfl, z₂⟩
      exact ⟨rfl, hnew' h₂ ep₂ _ z₂⟩
    split
    · refine wpAny_bind ?_
      rw [hashByValue_scannable 8 rfl]
      refine wpAny_pure ?_
      refine wpAny_mono (tail _ rfl) (fun r s₂ q => ?_) fun _ _ x => x
      obtain ⟨rfl, q'⟩ := fin2 _ _ q
      exact wpAny_pure (fin _ _ q')
    · refine wpAny_bind (wpAny_pure ?_)
      simp only [↓reduceIte]
      refine wpAny_mono (tail _ rfl) (fun r s₂ q => ?_) fun _ _ x => x
      obtain ⟨rfl, q'⟩ := fin2 _ _ q
      exact wpAny_pure (fin _ _ q')

theorem drop_fits {i n : Nat} (hi : i < n) (hf : t.fits n = true) : (t.drop i).fits (n - 1) = true := by
  simp only [SetTable.fits, Bool.and_eq_true, beq_iff_eq, decide_eq_true_eq] at hf ⊢
  obtain ⟨h1, h2⟩ := hf
  have hget : t.place[i]? = some t.place[i] := Array.getElem?_eq_getElem (by omega)
  unfold SetTable.drop
  rw [hget]
  simp only [SetTable.fill, SetTable.eraseAt, SetTable.insertAt, Array.size_append, Array.size_extract, Array.size_push] at h2 ⊢
  have hb : SetTable.below t.dummies t.place[i] ≤ t.dummies.size ∨ True := .inr trivial
  constructor
  · omega
  · omega

theorem s_discard {Q : Value → Shared → Prop} (z : Z b L m ld s.heap) (ha : ld a = some (setObj es ep t)) (hn : New b a) (hE : Els es.toList) (hf : t.fits es.size = true) (hb : es.size < 900)
    (hnot : k ∉ es.toList.map keyOf → ∀ tk', Q .none { s with toks := tk' })
    (hthere : ∀ i, (es.toList.map keyOf)[i]? = some k → ∀ h' ep' tk', Z b L m (upd ld a (setObj (SetTable.eraseAt es i) ep' (t.drop i))) h' → Q .none { s with heap := h', toks := tk' }) :
    wpAny (model prog w) A (call (.builtin "set.discard") [.ref a, .int k tk]) Q E s := by
  have hkey := intKind_is prog w k tk
  have hT : s.TypeIs (.ref a) "set" := ⟨_, z.led _ _ ha, rfl⟩
  refine wpAny_call_entry F.slot_set_discard hT F.entry_set_discard ?_ (F.args_set_discard_2 _ _)
  unfold Builtin.«set.discard» Builtin.Frozenset.oneOther
  simp only [List.isEmpty_nil, bind_assoc]
  unfold Builtin.Frozenset.addrOf Builtin.Frozenset.withSetAsKey setDiscard
  refine wpAny_bind (wpAny_pure ?_)
  try dsimp only
  refine wpAny_bind (wpAny_pure ?_)
  try dsimp only
  refine wpAny_bind (wpAny_tryCatch ?_)
  refine wpAny_holding ?_
  refine wpAny_bind ((intKind prog w).pyHash hkey ?_)
  have fin : ∀ s' (Q' : Value → Shared → Prop), Q' .none s' → wpAny (model prog w) A.in1 (ret Value.none) (fun fin s' => ∃ r, fin = .done (.ret r) ∧ Q' r s') E s' := fun s' Q' q => wpAny_pure ⟨_, rfl, q⟩
  unfold setDiscardHashed setFind setFindIn
  have hb' : es.size < scanBound := Nat.lt_trans hb (by decide)
  refine wpAny_bind (wpAny_bind (wpAny_setState_of (s := { s with toks := s.toks + 1 }) (z.led _ _ ha) rfl hf ?_))
  dsimp only
  rw [byScan_of (prog := prog) (w := w) rfl hb' hE.elems]
  simp only [↓reduceIte]
  refine wpAny_bind (wpAny_rule ?_)
  refine wpAny_bind (wpAny_setScan_of hkey (z.led _ _ ha) rfl hf hE.elems ?_)
  rw [findIdx_key hE]
  cases hr : List.findIdx? (fun x => decide (x = k)) (es.toList.map keyOf) with
  | none =>
    dsimp only
    have hnm : k ∉ es.toList.map keyOf := fun hm => by
      have := List.findIdx?_eq_none_iff.mp hr k hm
      simp at this
    exact wpAny_pure (wpAny_pure (fin _ _ (hnot hnm _)))
  | some j =>
    dsimp only
    obtain ⟨hj, hpj, _⟩ := List.findIdx?_eq_some_iff_getElem.mp hr
    refine wpAny_pure ?_
    refine wpAny_bind (wpAny_setState_of (s := { s with toks := s.toks + 1 }) (z.led _ _ ha) rfl hf ?_)
    dsimp only
    have hjs : j < es.size := by simpa using hj
    have hes : (SetTable.eraseAt es (0 + j)).size ≤ 1000 := by simp only [SetTable.eraseAt, Array.size_append, Array.size_extract]; omega
    refine wpAny_bind (storeSet_Z (s := { s with toks := s.toks + 1 }) z ha hn hes fun h₁ z₁ => ?_)
    refine wpAny_bind (wpAny_point (wpAny_pure (fin _ _ (hthere (0 + j) ?_ h₁ _ _ z₁))))
    rw [Nat.zero_add, List.getElem?_eq_getElem hj, of_decide_eq_true hpj]

/-- what the elements are behind an erasure -/
theorem eraseAt_toList (es : Array (Int × Value)) (i : Nat) : (SetTable.eraseAt es i).toList = es.toList.eraseIdx i := by
  unfold SetTable.eraseAt
  rw [Array.toList_append, Array.toList_extract, Array.toList_extract]
  simp only [List.extract_eq_drop_take, List.drop_zero, Nat.sub_zero]
  rw [List.eraseIdx_eq_take_drop_succ]
  congr 1
  rw [List.take_of_length_le]
  simp
end
end Mine

namespace Mine
open SetTable

/-- binary search: what `below` finds -/
theorem below_go {xs : Array Nat} {j : Nat} (hp : xs.toList.Pairwise (· < ·)) : ∀ (fuel lo hi : Nat), hi ≤ xs.size → lo ≤ hi → hi - lo ≤ fuel → (∀ i x, i < lo → xs[i]? = some x → x < j) → (∀ i x, hi ≤ i → xs[i]? = some x → j ≤ x) →
    (∀ i x, i < below.go xs j fuel lo hi → xs[i]? = some x → x < j) ∧ (∀ i x, below.go xs j fuel lo hi ≤ i → xs[i]? = some x → j ≤ x) ∧ below.go xs j fuel lo hi ≤ xs.size
  | 0, lo, hi, h1, h2, h3, h4, h5 => by
    have : lo = hi := by omega
    subst this
    unfold below.go
    exact ⟨h4, h5, h1⟩
  | fuel + 1, lo, hi, h1, h2, h3, h4, h5 => by
    unfold below.go
    by_cases hlt : lo < hi
    · rw [if_pos hlt]
      dsimp only
      have hm : (lo + hi) / 2 < xs.size := by omega
      have hget : xs.getD ((lo + hi) / 2) j = xs[(lo + hi) / 2] := by rw [Array.getD, dif_pos hm]; rfl
      have hmon : ∀ i i' x x', i < i' → xs[i]? = some x → xs[i']? = some x' → x < x' := fun i i' x x' hii hx hx' => by
        obtain ⟨a1, a2⟩ := Array.getElem?_eq_some_iff.mp hx
        obtain ⟨b1, b2⟩ := Array.getElem?_eq_some_iff.mp hx'
        have := List.pairwise_iff_getElem.mp hp i i' (by simpa using a1) (by simpa using b1) hii
        simpa [a2, b2] using this
      have hmid : xs[(lo + hi) / 2]? = some xs[(lo + hi) / 2] := Array.getElem?_eq_getElem hm
      rw [hget]
      by_cases hc : xs[(lo + hi) / 2] < j
      · rw [if_pos hc]
        refine below_go hp fuel _ _ h1 (by omega) (by omega) (fun i x hi' hx => ?_) h5
        rcases Nat.lt_or_ge i ((lo + hi) / 2) with q | q
        · exact Nat.lt_trans (hmon _ _ _ _ q hx hmid) hc
        · obtain rfl : i = (lo + hi) / 2 := by omega
          rw [hmid] at hx; cases hx; exact hc
      · rw [if_neg hc]
        refine below_go hp fuel _ _ (by omega) (by omega) (by omega) h4 (fun i x hi' hx => ?_)
        rcases Nat.lt_or_ge ((lo + hi) / 2) i with q | q
        · exact Nat.le_of_lt (Nat.lt_of_le_of_lt (Nat.not_lt.mp hc) (hmon _ _ _ _ q hmid hx))
        · obtain rfl : i = (lo + hi) / 2 := by omega
          rw [hmid] at hx; cases hx; exact Nat.not_lt.mp hc
    · rw [if_neg hlt]
      have : lo = hi := by omega
      subst this
      exact ⟨h4, h5, h1⟩
theorem below_spec {xs : Array Nat} {j : Nat} (hp : xs.toList.Pairwise (· < ·)) : (∀ i x, i < below xs j → xs[i]? = some x → x < j) ∧ (∀ i x, below xs j ≤ i → xs[i]? = some x → j ≤ x) ∧ below xs j ≤ xs.size :=
  below_go hp xs.size 0 xs.size (Nat.le_refl _) (Nat.zero_le _) (by omega) (fun i x h _ => absurd h (Nat.not_lt_zero _)) (fun i x h hx => by
    have := (Array.getElem?_eq_some_iff.mp hx).1; omega)

theorem toList_insertAt {α : Type} (xs : Array α) (p : Nat) (x : α) (hp : p ≤ xs.size) : (insertAt xs p x).toList = xs.toList.take p ++ x :: xs.toList.drop p := by
  unfold insertAt
  rw [Array.toList_append, Array.toList_push, Array.toList_extract, Array.toList_extract, List.extract_eq_take_drop, List.extract_eq_take_drop, List.append_assoc]
  rw [List.drop_zero, Nat.sub_zero, List.take_of_length_le (l := List.drop p xs.toList) (by simp)]
  rfl

theorem mem_of_has {xs : Array Nat} {j : Nat} (h : SetTable.has xs j = true) : j ∈ xs.toList := by
  unfold SetTable.has at h
  have := eq_of_beq h
  exact Array.mem_toList_iff.mpr (Array.mem_of_getElem? this)

theorem slot_nonempty {t : SetTable} {j : Nat} (h : t.slot j ≠ .empty) : j ∈ t.place.toList ++ t.dummies.toList := by
  unfold SetTable.slot at h
  dsimp only at h
  split at h
  · rename_i q
    exact List.mem_append_left _ (Array.mem_toList_iff.mpr (Array.mem_of_getElem? (eq_of_beq q)))
  · split at h
    · rename_i q; exact List.mem_append_right _ (mem_of_has q)
    · exact absurd rfl h
theorem slot_not_live {t : SetTable} {j : Nat} (hp : t.place.toList.Pairwise (· < ·)) (h : ∀ i, t.slot j ≠ .live i) : j ∉ t.place.toList := fun hm => by
  obtain ⟨i, hlt, hi⟩ := Array.getElem_of_mem (Array.mem_toList_iff.mp hm)
  have hi' : t.place[i]? = some j := by rw [Array.getElem?_eq_getElem hlt, hi]
  obtain ⟨b1, b2, b3⟩ := below_spec (j := j) hp
  have hb : below t.place j = i := by
    rcases Nat.lt_trichotomy (below t.place j) i with q | q | q
    · have hbl : below t.place j < t.place.size := by omega
      have hb' := Array.getElem?_eq_getElem hbl
      have := b2 _ _ (Nat.le_refl _) hb'
      have h2 := List.pairwise_iff_getElem.mp hp (below t.place j) i (by simpa using hbl) (by simpa using hlt) q
      simp only [Array.getElem_toList] at h2
      omega
    · exact q
    · exact absurd (b1 i j q hi') (Nat.lt_irrefl _)
  have := h i
  unfold SetTable.slot at this
  dsimp only at this
  rw [hb, hi'] at this
  simp at this

theorem put_rising {t : SetTable} {j : Nat} (hp : t.place.toList.Pairwise (· < ·)) (hj : j ∉ t.place.toList) : (t.put j).1.place.toList.Pairwise (· < ·) := by
  obtain ⟨b1, b2, b3⟩ := below_spec (j := j) hp
  show (insertAt t.place (below t.place j) j).toList.Pairwise (· < ·)
  rw [toList_insertAt _ _ _ b3]
  have hget : ∀ (i x : Nat), t.place.toList[i]? = some x → t.place[i]? = some x := fun i x h => by simpa using h
  rw [List.pairwise_append]
  refine ⟨hp.sublist (List.take_sublist _ _), ?_, fun a ha c hc => ?_⟩
  · rw [List.pairwise_cons]
    refine ⟨fun a ha => ?_, hp.sublist (List.drop_sublist _ _)⟩
    obtain ⟨i, hi⟩ := List.getElem?_of_mem ha
    rw [List.getElem?_drop] at hi
    have := b2 _ _ (Nat.le_add_right _ _) (hget _ _ hi)
    exact Nat.lt_of_le_of_ne this fun e => hj (e ▸ List.mem_of_mem_drop ha)
  · have h1 : a < j := by
      obtain ⟨i, hi⟩ := List.getElem?_of_mem ha
      rw [List.getElem?_take] at hi
      split at hi
      · exact b1 _ _ (by assumption) (hget _ _ hi)
      · cases hi
    rcases List.mem_cons.mp hc with rfl | hc
    · exact h1
    · obtain ⟨i, hi⟩ := List.getElem?_of_mem hc
      rw [List.getElem?_drop] at hi
      exact Nat.lt_of_lt_of_le h1 (b2 _ _ (Nat.le_add_right _ _) (hget _ _ hi))

/-- the probe's way, without its dummy -/
def step (mask : Nat) : Nat × Nat × Nat × Nat → Nat × Nat × Nat × Nat
  | (j, more, i, pt) => if more > 0 then (j + 1, more - 1, i, pt) else
    let l := leap mask i pt
    (l.1, runEnd mask l.1 - l.1, l.1, l.2)
def way (mask : Nat) : Nat → Nat × Nat × Nat × Nat → List Nat
  | 0, _ => []
  | n + 1, q => q.1 :: way mask n (step mask q)
def core (p : Probe) : Nat × Nat × Nat × Nat := (p.j, p.more, p.i, p.perturb)
theorem core_advance (t : SetTable) (p : Probe) : core (t.advance p) = step t.mask (core p) := by
  unfold SetTable.advance step core
  dsimp only
  split
  · rfl
  · rfl

theorem probe_finds {t : SetTable} {h : Int} : ∀ (n fuel : Nat) (p : Probe), n ≤ fuel → (∃ j ∈ way t.mask n (core p), t.slot j = .empty) → (∀ d, p.dummy = some d → t.slot d = .dummy) →
    ∃ j d, SetTable.probe.go t (fun _ => h + 1) h fuel p = some (.empty j d) ∧ t.slot j = .empty ∧ ∀ d', d = some d' → t.slot d' = .dummy
  | 0, _, _, _, ⟨_, hm, _⟩, _ => by cases hm
  | n + 1, 0, _, hle, _, _ => absurd hle (by omega)
  | n + 1, fuel + 1, p, hle, ⟨j, hm, hj⟩, hd => by
    unfold SetTable.probe.go
    cases hs : t.slot p.j with
    | empty => exact ⟨p.j, p.dummy, rfl, hs, hd⟩
    | dummy =>
      dsimp only
      refine probe_finds n fuel _ (by omega) ⟨j, ?_, hj⟩ ?_
      · rw [core_advance]
        rcases List.mem_cons.mp hm with rfl | hm
        · rw [show (core p).1 = p.j from rfl, hs] at hj; cases hj
        · exact hm
      · intro d q
        unfold SetTable.advance at q
        dsimp only at q
        split at q <;> (cases q; exact hs)
    | live i =>
      dsimp only
      rw [if_neg (by simp; omega)]
      refine probe_finds n fuel _ (by omega) ⟨j, ?_, hj⟩ ?_
      · rw [core_advance]
        rcases List.mem_cons.mp hm with rfl | hm
        · rw [show (core p).1 = p.j from rfl, hs] at hj; cases hj
        · exact hm
      · intro d q
        unfold SetTable.advance at q
        dsimp only at q
        split at q <;> exact hd d q

def startAt (mask k : Nat) : Nat × Nat × Nat × Nat := (k % (mask + 1), runEnd mask (k % (mask + 1)) - k % (mask + 1), k % (mask + 1), k)
def masks : List Nat := [7, 15, 31, 63]
theorem cover : ∀ mask ∈ masks, ∀ k ∈ List.range' 1 9, ∀ j ∈ List.range (mask + 1), j ∈ way mask (10 * turns mask) (startAt mask k) := by decide +kernel

theorem bits_small {k : Nat} (h : k < 100) : bits (hashInt (k : Int)) = k := by
  have : ∀ k ∈ List.range 100, bits (hashInt ((k : Nat) : Int)) = k := by decide +kernel
  exact this k (List.mem_range.mpr h)

theorem freeSlot_ok {t : SetTable} {k : Nat} (hm : t.mask ∈ masks) (hk : 1 ≤ k ∧ k ≤ 9) (hf : t.fill ≤ t.mask) (hp : t.place.toList.Pairwise (· < ·)) : ∃ slot wd, t.freeSlot (hashInt (k : Int)) = some (slot, wd) ∧ slot ∉ t.place.toList ∧ (wd = true → SetTable.has t.dummies slot = true) := by
  have hex : ∃ j ∈ way t.mask (10 * turns t.mask) (core (t.probeStart (hashInt (k : Int)))), t.slot j = .empty := by
    refine Classical.byContradiction fun hno => ?_
    have hsub : List.range (t.mask + 1) ⊆ t.place.toList ++ t.dummies.toList := fun j hj => slot_nonempty fun he => hno ⟨j, ?_, he⟩
    · have := (List.nodup_range (n := t.mask + 1)).length_le_of_subset hsub
      rw [List.length_range, List.length_append, Array.length_toList, Array.length_toList] at this
      unfold SetTable.fill at hf; omega
    · have := cover t.mask hm k (by rw [List.mem_range'_1]; omega) j hj
      have hst : core (t.probeStart (hashInt (k : Int))) = startAt t.mask k := by
        unfold core SetTable.probeStart startAt
        dsimp only
        rw [bits_small (by omega)]
      rw [hst]; exact this
  obtain ⟨j, d, h1, h2, h3⟩ := probe_finds (h := hashInt (k : Int)) (10 * turns t.mask) (10 * turns t.mask) (t.probeStart (hashInt (k : Int))) (Nat.le_refl _) hex (fun d q => by cases q)
  unfold SetTable.freeSlot
  rw [show t.probe (fun _ => hashInt (k : Int) + 1) (hashInt (k : Int)) (t.probeStart (hashInt (k : Int))) = some (.empty j d) from h1]
  dsimp only
  refine ⟨_, _, rfl, slot_not_live hp fun i q => ?_, fun q => ?_⟩
  · cases d with
    | none => rw [Option.getD_none, h2] at q; cases q
    | some d' => rw [Option.getD_some, h3 d' rfl] at q; cases q
  · cases d with
    | none => cases q
    | some d' =>
      rw [Option.getD_some]
      have hs := h3 d' rfl
      unfold SetTable.slot at hs
      dsimp only at hs
      split at hs
      · cases hs
      · split at hs
        · assumption
        · cases hs
end Mine

namespace Mine
open SetTable

structure TabOk (t : SetTable) : Prop where
  plain : t.plain = true
  rising : t.place.toList.Pairwise (· < ·)
  mask : t.mask ∈ masks
  room : t.fill * 5 < t.mask * 3

theorem TabOk.fresh (led : Bool) : TabOk (.fresh 0 0 led) := ⟨rfl, by simp [SetTable.fresh], by simp [SetTable.fresh, masks], by simp [SetTable.fresh, SetTable.fill]⟩

theorem size_insertAt {α : Type} (xs : Array α) (p : Nat) (x : α) (hp : p ≤ xs.size) : (insertAt xs p x).size = xs.size + 1 := by
  rw [← Array.length_toList, toList_insertAt _ _ _ hp, List.length_append, List.length_cons, List.length_take, List.length_drop, Array.length_toList]; omega
theorem size_eraseAt {α : Type} (xs : Array α) (p : Nat) : (eraseAt xs p).size ≤ xs.size := by
  unfold eraseAt; rw [Array.size_append, Array.size_extract, Array.size_extract]; omega

theorem put_fill {t : SetTable} {j : Nat} (hp : t.place.toList.Pairwise (· < ·)) : (t.put j).1.fill ≤ t.fill + 1 ∧ (t.put j).1.place.size = t.place.size + 1 := by
  have hb := (below_spec (j := j) hp).2.2
  have h1 : (t.put j).1.place.size = t.place.size + 1 := size_insertAt _ _ _ hb
  refine ⟨?_, h1⟩
  show (t.put j).1.place.size + (t.put j).1.dummies.size ≤ t.place.size + t.dummies.size + 1
  rw [h1]
  have : (t.put j).1.dummies.size ≤ t.dummies.size := by
    show (if SetTable.has t.dummies j then eraseAt t.dummies (below t.dummies j) else t.dummies).size ≤ _
    split
    · exact size_eraseAt _ _
    · exact Nat.le_refl _
  omega

theorem put_fill_dummy {t : SetTable} {j : Nat} (hp : t.place.toList.Pairwise (· < ·)) (hd : SetTable.has t.dummies j = true) : (t.put j).1.fill ≤ t.fill := by
  have h1 := (put_fill (j := j) hp).2
  have hb : below t.dummies j < t.dummies.size := (Array.getElem?_eq_some_iff.mp (eq_of_beq hd)).1
  show (t.put j).1.place.size + (if SetTable.has t.dummies j then eraseAt t.dummies (below t.dummies j) else t.dummies).size ≤ t.place.size + t.dummies.size
  rw [if_pos hd, h1]
  unfold eraseAt
  rw [Array.size_append, Array.size_extract, Array.size_extract]; omega

theorem layNew_ok {t : SetTable} {es : Array (Int × Value)} {k : Nat} {x : Value} (h : TabOk t) (hf : t.fits es.size = true) (hk : 1 ≤ k ∧ k ≤ 9) :
    (layNew t es (hashInt (k : Int)) x).2.1.plain = true ∧ (layNew t es (hashInt (k : Int)) x).2.1.led = t.led ∧ (layNew t es (hashInt (k : Int)) x).2.1.place.toList.Pairwise (· < ·) ∧ (layNew t es (hashInt (k : Int)) x).2.1.mask = t.mask ∧
      (layNew t es (hashInt (k : Int)) x).2.1.fill ≤ t.fill + 1 ∧ (layNew t es (hashInt (k : Int)) x).1.size = es.size + 1 ∧ ((layNew t es (hashInt (k : Int)) x).2.2.1 = true → (layNew t es (hashInt (k : Int)) x).2.1.fill ≤ t.fill) := by
  have hroom := h.room
  obtain ⟨slot, wd, hs, hns, hwd⟩ := freeSlot_ok h.mask hk (by omega) h.rising
  have hpz : t.place.size = es.size := by
    unfold SetTable.fits at hf
    rw [Bool.and_eq_true] at hf
    exact eq_of_beq hf.1
  obtain ⟨f1, f2⟩ := put_fill (j := slot) h.rising
  have hb := (below_spec (j := slot) h.rising).2.2
  have hez : (insertAt es (below t.place slot) (hashInt (k : Int), x)).size = es.size + 1 := size_insertAt _ _ _ (by rw [← hpz]; exact hb)
  have hfit : (t.put slot).1.fits (insertAt es (t.put slot).2 (hashInt (k : Int), x)).size = true := by
    unfold SetTable.fits
    rw [Bool.and_eq_true]
    refine ⟨?_, decide_eq_true ?_⟩
    · rw [f2, hpz]; exact beq_iff_eq.mpr hez.symm
    · show (t.put slot).1.fill ≤ t.mask
      omega
  unfold layNew
  rw [hs]
  dsimp only
  unfold SetTable.orStandIn
  rw [if_pos hfit]
  exact ⟨h.plain, rfl, put_rising h.rising hns, rfl, f1, hez, fun q => put_fill_dummy h.rising (hwd q)⟩
end Mine

namespace Mine
open SetTable

/-- where a key goes in a clean table -/
def home (mask : Nat) (h : Int) : Nat := bits h % (mask + 1)

theorem free_home {mask : Nat} {owner : Array (Option Nat)} {h : Int} (ho : owner.getD (home mask h) (some 0) = none) : layClean.free mask owner (turns mask) (bits h % (mask + 1)) (bits h) = some (home mask h) := by
  have : turns mask = (mask + 14) + 1 := rfl
  rw [this]
  unfold layClean.free
  have hr : ∃ r, List.range (runEnd mask (bits h % (mask + 1)) + 1 - bits h % (mask + 1)) = 0 :: r := by
    have : runEnd mask (bits h % (mask + 1)) + 1 - bits h % (mask + 1) = (runEnd mask (bits h % (mask + 1)) - bits h % (mask + 1)) + 1 := by
      have : bits h % (mask + 1) ≤ runEnd mask (bits h % (mask + 1)) := by unfold runEnd; split <;> omega
      omega
    rw [this, List.range_succ_eq_map]; exact ⟨_, rfl⟩
  obtain ⟨r, hr⟩ := hr
  rw [hr, List.find?_cons_of_pos (by rw [Nat.add_zero]; show (owner.getD (home mask h) (some 0)).isNone = true; rw [ho]; rfl)]
  rfl

def OwnIs (mask : Nat) (owner : Array (Option Nat)) (ls : List Nat) : Prop := owner.size = mask + 1 ∧ ∀ j k, owner.getD j none = some k ↔ ls[k]? = some j

theorem OwnIs.step {mask : Nat} {owner : Array (Option Nat)} {ls : List Nat} {j : Nat} (h : OwnIs mask owner ls) (hj : j < mask + 1) (hn : j ∉ ls) : owner.getD j (some 0) = none ∧ OwnIs mask (owner.setIfInBounds j (some ls.length)) (ls ++ [j]) := by
  obtain ⟨h1, h2⟩ := h
  have hjs : j < owner.size := by omega
  have hg : ∀ d, owner.getD j d = owner[j] := fun d => by rw [Array.getD, dif_pos hjs]; rfl
  have hnone : owner[j] = none := by
    cases q : owner[j] with
    | none => rfl
    | some k => exact absurd (List.mem_of_getElem? ((h2 j k).mp (by rw [hg, q]))) hn
  refine ⟨by rw [hg, hnone], by rw [Array.size_setIfInBounds]; exact h1, fun j' k => ?_⟩
  by_cases hjj : j' = j
  · subst hjj
    rw [show (owner.setIfInBounds j' (some ls.length)).getD j' none = some ls.length from by
      rw [Array.getD, dif_pos (by rw [Array.size_setIfInBounds]; exact hjs)]; simp [hjs]]
    constructor
    · intro q; cases q; rw [List.getElem?_concat_length]
    · intro q
      rcases Nat.lt_trichotomy k ls.length with hk | hk | hk
      · rw [List.getElem?_append_left hk] at q; exact absurd (List.mem_of_getElem? q) hn
      · rw [hk]
      · rw [List.getElem?_eq_none (by rw [List.length_append]; exact hk)] at q; cases q
  · rw [show (owner.setIfInBounds j (some ls.length)).getD j' none = owner.getD j' none from by
      rw [Array.getD_eq_getD_getElem?, Array.getD_eq_getD_getElem?, Array.getElem?_setIfInBounds_ne (Ne.symm hjj)], h2]
    constructor
    · intro q
      rw [List.getElem?_append_left (List.getElem?_eq_some_iff.mp q).1]; exact q
    · intro q
      rcases Nat.lt_trichotomy k ls.length with hk | hk | hk
      · rwa [List.getElem?_append_left hk] at q
      · rw [hk, List.getElem?_concat_length] at q; cases q; exact absurd rfl hjj
      · rw [List.getElem?_eq_none (by rw [List.length_append]; exact hk)] at q; cases q

theorem layClean_ok {mask : Nat} {hs : List Int} (hd : (hs.map (home mask)).Nodup) : ∃ owner, layClean mask hs.toArray = some owner ∧ OwnIs mask owner (hs.map (home mask)) := by
  have key : ∀ (hs : List Int) (ls : List Nat) (owner : Array (Option Nat)), OwnIs mask owner ls → (ls ++ hs.map (home mask)).Nodup →
      ∃ owner', hs.foldl (fun acc h => do
        let (owner, k) ← acc
        let j ← layClean.free mask owner (turns mask) (bits h % (mask + 1)) (bits h)
        pure (owner.setIfInBounds j (some k), k + 1)) (some (owner, ls.length)) = some (owner', ls.length + hs.length) ∧ OwnIs mask owner' (ls ++ hs.map (home mask)) := fun hs => by
    induction hs with
    | nil => intro ls owner h _; exact ⟨owner, rfl, by simpa using h⟩
    | cons h hs ih =>
      intro ls owner ho hn
      have hlt : home mask h < mask + 1 := Nat.mod_lt _ (by omega)
      have hnm : home mask h ∉ ls := fun hm => by
        rw [List.nodup_append] at hn
        exact hn.2.2 _ hm _ (by simp) rfl
      obtain ⟨g1, g2⟩ := ho.step hlt hnm
      obtain ⟨owner', q1, q2⟩ := ih (ls ++ [home mask h]) _ g2 (by simpa using hn)
      refine ⟨owner', ?_, by simpa using q2⟩
      rw [List.foldl_cons]
      have : (do
        let (owner, k) ← some (owner, ls.length)
        let j ← layClean.free mask owner (turns mask) (bits h % (mask + 1)) (bits h)
        pure (owner.setIfInBounds j (some k), k + 1)) = some (owner.setIfInBounds (home mask h) (some ls.length), ls.length + 1) := by
        show (layClean.free mask owner (turns mask) (bits h % (mask + 1)) (bits h)).bind _ = _
        rw [free_home g1]; rfl
      rw [this]
      rw [List.length_append, List.length_singleton] at q1
      rw [q1, List.length_cons]
      congr 2
      omega
  obtain ⟨owner, q1, q2⟩ := key hs [] (Array.replicate (mask + 1) none) ⟨by simp, fun j k => by
    rw [Array.getD_eq_getD_getElem?, Array.getElem?_replicate]
    simp only [List.getElem?_nil]
    constructor
    · intro q; split at q <;> cases q
    · intro q; cases q⟩ (by simpa using hd)
  refine ⟨owner, ?_, by simpa using q2⟩
  unfold layClean
  rw [List.foldl_toArray']
  · exact congrArg (Option.map (·.1)) q1
  · simp
end Mine

namespace Mine
open SetTable

theorem sizes_ok : ∀ n ∈ List.range' 1 9, (sizeAbove (grown n) - 1) ∈ masks ∧ n * 5 < (sizeAbove (grown n) - 1) * 3 ∧ (n = 1 ∨ 15 ≤ sizeAbove (grown n) - 1) := by decide +kernel

theorem order_perm {mask : Nat} {owner : Array (Option Nat)} {ls : List Nat} (h : OwnIs mask owner ls) (hl : ∀ j ∈ ls, j < mask + 1) :
    (((List.range (mask + 1)).filterMap fun j => (owner.getD j none).map (j, ·)).map (·.2)).Perm (List.range ls.length) := by
  rw [List.perm_ext_iff_of_nodup ?_ List.nodup_range]
  · intro k
    rw [List.mem_map]
    constructor
    · rintro ⟨⟨j, k'⟩, hm, rfl⟩
      obtain ⟨j', hj', hq⟩ := List.mem_filterMap.mp hm
      obtain ⟨k'', h1, h2⟩ := Option.map_eq_some_iff.mp hq
      cases h2
      have := (h.2 _ _).mp h1
      exact List.mem_range.mpr (List.getElem?_eq_some_iff.mp this).1
    · intro hk
      have hk := List.mem_range.mp hk
      refine ⟨(ls[k], k), List.mem_filterMap.mpr ⟨ls[k], List.mem_range.mpr (hl _ (List.getElem_mem hk)), ?_⟩, rfl⟩
      rw [(h.2 ls[k] k).mpr (List.getElem?_eq_getElem hk)]; rfl
  · unfold List.Nodup
    rw [List.pairwise_map, List.pairwise_filterMap]
    refine (List.nodup_range (n := mask + 1)).imp ?_
    intro a c hac p hp q hq e
    obtain ⟨k, h1, rfl⟩ := Option.map_eq_some_iff.mp hp
    obtain ⟨k', h2, rfl⟩ := Option.map_eq_some_iff.mp hq
    dsimp only at e
    subst e
    have e1 := (h.2 _ _).mp h1
    have e2 := (h.2 _ _).mp h2
    rw [e1] at e2
    exact hac (Option.some.inj e2)

theorem place_rising {mask : Nat} {owner : Array (Option Nat)} : (((List.range (mask + 1)).filterMap fun j => (owner.getD j none).map (j, ·)).map (·.1)).Pairwise (· < ·) := by
  rw [List.pairwise_map, List.pairwise_filterMap]
  refine (List.pairwise_lt_range (n := mask + 1)).imp ?_
  intro a c hac p hp q hq
  obtain ⟨k, h1, rfl⟩ := Option.map_eq_some_iff.mp hp
  obtain ⟨k', h2, rfl⟩ := Option.map_eq_some_iff.mp hq
  exact hac

/-- hashes of a set of small ints -/
def SmallH (es : Array (Int × Value)) : Prop := (es.toList.map (·.1)).Nodup ∧ ∀ e ∈ es.toList, ∃ k : Nat, 1 ≤ k ∧ k ≤ 9 ∧ e.1 = hashInt (k : Int)

theorem hash_inj {k k' : Nat} (h : k < 100) (h' : k' < 100) (e : hashInt (k : Int) = hashInt (k' : Int)) : k = k' := by
  have := congrArg bits e
  rwa [bits_small h, bits_small h'] at this

theorem SmallH.le {es : Array (Int × Value)} (h : SmallH es) : es.size ≤ 9 := by
  have hsub : es.toList.map (·.1) ⊆ (List.range' 1 9).map fun k : Nat => hashInt (k : Int) := fun x hx => by
    obtain ⟨e, he, rfl⟩ := List.mem_map.mp hx
    obtain ⟨k, h1, h2, h3⟩ := h.2 e he
    exact List.mem_map.mpr ⟨k, by rw [List.mem_range'_1]; omega, h3.symm⟩
  have := h.1.length_le_of_subset hsub
  simpa using this

theorem relayAll_ok {t : SetTable} {es : Array (Int × Value)} (h : SmallH es) (h1 : 1 ≤ es.size) :
    (relayAll t es (grown es.size)).2.1.plain = t.plain ∧ (relayAll t es (grown es.size)).2.1.led = t.led ∧ (relayAll t es (grown es.size)).2.1.place.toList.Pairwise (· < ·) ∧ (relayAll t es (grown es.size)).2.1.mask ∈ masks ∧
      (relayAll t es (grown es.size)).2.1.fill * 5 < (relayAll t es (grown es.size)).2.1.mask * 3 := by
  obtain ⟨s1, s2, s3⟩ := sizes_ok es.size (by have := h.le; rw [List.mem_range'_1]; omega)
  generalize hmask : sizeAbove (grown es.size) - 1 = mask at s1 s2 s3
  have hd : ((es.toList.map (·.1)).map (home mask)).Nodup := by
    rcases s3 with s3 | s3
    · have : es.toList.length = 1 := by simpa using s3
      match hes : es.toList, this with
      | [e], _ => simp
    · unfold List.Nodup
      have := h.1
      unfold List.Nodup at this
      rw [List.map_map, List.pairwise_map]
      rw [List.pairwise_map] at this
      refine this.imp_of_mem ?_
      intro a c ha hc hac e
      obtain ⟨k, k1, k2, k3⟩ := h.2 a ha
      obtain ⟨k', k1', k2', k3'⟩ := h.2 c hc
      simp only [Function.comp_apply, home, k3, k3'] at e
      rw [bits_small (by omega), bits_small (by omega), Nat.mod_eq_of_lt (by omega), Nat.mod_eq_of_lt (by omega)] at e
      exact hac (by rw [k3, k3', e])
  obtain ⟨owner, ho, how⟩ := layClean_ok hd
  have hln : ((es.toList.map (·.1)).map (home mask)).length = es.size := by simp
  have hperm := order_perm how (fun j hj => by
    obtain ⟨e, _, rfl⟩ := List.mem_map.mp hj
    exact Nat.mod_lt _ (by omega))
  rw [hln] at hperm
  have hrel : t.relaid (es.map (·.1)) (grown es.size) = some ({ mask, place := ((((List.range (mask + 1)).filterMap fun j => (owner.getD j none).map (j, ·)).map (·.1)).toArray), dummies := #[], finger := t.finger, led := t.led, moves := t.movedTo mask, plain := t.plain },
      (((List.range (mask + 1)).filterMap fun j => (owner.getD j none).map (j, ·)).map (·.2)).toArray) := by
    unfold SetTable.relaid SetTable.laid
    rw [hmask, show es.map (·.1) = (es.toList.map (·.1)).toArray by obtain ⟨l⟩ := es; simp, ho]
    rfl
  have hplz : (((List.range (mask + 1)).filterMap fun j => (owner.getD j none).map (j, ·)).map (·.1)).length = es.size := by
    rw [List.length_map]
    have := hperm.length_eq
    rw [List.length_map, List.length_range] at this
    exact this
  generalize hpl : (((List.range (mask + 1)).filterMap fun j => (owner.getD j none).map (j, ·)).map (·.1)) = pl at hrel hplz
  have hris : pl.Pairwise (· < ·) := hpl ▸ place_rising
  generalize hor : (((List.range (mask + 1)).filterMap fun j => (owner.getD j none).map (j, ·)).map (·.2)) = order at hrel hperm
  have hcov : coversAll order.toArray es.size = true := by
    unfold coversAll
    rw [List.isPerm_iff]; exact hperm
  have hez : (order.toArray.filterMap (es[·]?)).size = es.size := by
    rw [← Array.length_toList, Array.toList_filterMap]
    have h2 : ∀ l : List Nat, (∀ k ∈ l, k < es.size) → (l.filterMap (es[·]?)).length = l.length := fun l => by
      induction l with
      | nil => intro _; rfl
      | cons k l ih =>
        intro hl
        rw [List.filterMap_cons, Array.getElem?_eq_getElem (hl k (.head _))]
        dsimp only
        rw [List.length_cons, List.length_cons, ih fun k hk => hl k (.tail _ hk)]
    have h3 : order.toArray.toList = order := rfl
    rw [h3, h2 order fun k hk => List.mem_range.mp (hperm.mem_iff.mp hk), hperm.length_eq, List.length_range]
  unfold relayAll
  rw [hrel]
  dsimp only
  rw [if_pos (by
    rw [hcov, Bool.true_and]
    unfold SetTable.fits SetTable.fill
    dsimp only
    rw [hez, Bool.and_eq_true]
    refine ⟨by simp [hplz], decide_eq_true ?_⟩
    simp only [List.size_toArray, hplz, List.length_nil]
    omega)]
  refine ⟨rfl, rfl, hris, s1, ?_⟩
  unfold SetTable.fill
  dsimp only
  simp only [List.size_toArray, hplz, List.length_nil]
  omega

theorem addPure_ok {t : SetTable} {es : Array (Int × Value)} {k : Nat} {x : Value} (h : TabOk t) (hf : t.fits es.size = true) (hk : 1 ≤ k ∧ k ≤ 9) (hs : SmallH es) (hn : hashInt (k : Int) ∉ es.toList.map (·.1)) :
    TabOk (addPure t es (hashInt (k : Int)) x).2.1 ∧ (addPure t es (hashInt (k : Int)) x).2.1.led = t.led := by
  obtain ⟨a1, a2, a3, a4, a5, a6, a7⟩ := layNew_ok (x := x) h hf hk
  have hp := layNew_perm t es (hashInt (k : Int)) x
  rw [Array.toList_push] at hp
  have hs' : SmallH (layNew t es (hashInt (k : Int)) x).1 := by
    refine ⟨((hp.map (·.1)).nodup_iff).mpr ?_, fun e he => ?_⟩
    · rw [List.map_append]
      refine List.nodup_append.mpr ⟨hs.1, by simp, ?_⟩
      intro a ha c hc e
      rw [List.map_singleton, List.mem_singleton] at hc
      exact hn (by have hc' : c = hashInt (k : Int) := hc; rw [← hc', ← e]; exact ha)
    · rcases List.mem_append.mp (hp.mem_iff.mp he) with q | q
      · exact hs.2 e q
      · rw [List.mem_singleton.mp q]; exact ⟨k, hk.1, hk.2, rfl⟩
  unfold addPure
  split
  · obtain ⟨b1, b2, b3, b4, b5⟩ := relayAll_ok (t := (layNew t es (hashInt (k : Int)) x).2.1) hs' (by omega)
    exact ⟨⟨b1.trans a1, b3, b4, b5⟩, b2.trans a2⟩
  · rename_i hc
    refine ⟨⟨a1, a3, by rw [a4]; exact h.mask, ?_⟩, a2⟩
    show (layNew t es (hashInt (k : Int)) x).2.1.fill * 5 < (layNew t es (hashInt (k : Int)) x).2.1.mask * 3
    rw [a4]
    have hr := h.room
    cases hw : (layNew t es (hashInt (k : Int)) x).2.2.1 with
    | true => have := a7 hw; omega
    | false =>
      rw [hw] at hc
      simp only [Bool.not_false, Bool.true_and, SetTable.tooFull, decide_eq_true_eq, a4] at hc
      omega

theorem drop_ok {t : SetTable} {i : Nat} (h : TabOk t) (hi : i < t.place.size) : TabOk (t.drop i) ∧ (t.drop i).led = t.led := by
  have hget : t.place[i]? = some t.place[i] := Array.getElem?_eq_getElem hi
  unfold SetTable.drop
  rw [hget]
  refine ⟨⟨h.plain, ?_, h.mask, ?_⟩, rfl⟩
  · dsimp only
    refine h.rising.sublist ?_
    unfold eraseAt
    rw [Array.toList_append, Array.toList_extract, Array.toList_extract]
    simp only [List.extract_eq_take_drop, List.drop_zero, Nat.sub_zero]
    rw [List.take_of_length_le (l := List.drop (i + 1) t.place.toList) (by simp), ← List.eraseIdx_eq_take_drop_succ]
    exact List.eraseIdx_sublist _ _
  · have hr := h.room
    simp only [SetTable.fill, eraseAt, insertAt, Array.size_append, Array.size_extract, Array.size_push] at hr ⊢
    omega
end Mine

namespace Mine

/-- a set object of ints: its keys in the table's order -/
def SetK (w : World) (o : Obj) (ks : List Int) : Prop := ∃ es ep t, o = setObj es ep t ∧ Els es.toList ∧ es.toList.map keyOf = ks ∧ t.fits es.size = true ∧ ks.Nodup ∧ ks.length < 900 ∧ TabOk t ∧ t.led = !(w.params.followText "set-order") ∧ ∀ k ∈ ks, 1 ≤ k ∧ k ≤ 9

theorem SetK.fresh (w : World) : SetK w (setObj #[] 0 (.fresh 0 0 (!(w.params.followText "set-order")))) [] := ⟨_, _, _, rfl, fun _ h => by simp at h, rfl, rfl, .nil, by decide, TabOk.fresh _, rfl, fun _ h => nomatch h⟩

theorem Els.small {es : Array (Int × Value)} (h : Els es.toList) (hn : (es.toList.map keyOf).Nodup) (hr : ∀ k ∈ es.toList.map keyOf, 1 ≤ k ∧ k ≤ 9) : SmallH es := by
  have key : ∀ e ∈ es.toList, ∃ k : Nat, 1 ≤ k ∧ k ≤ 9 ∧ e.1 = hashInt (k : Int) ∧ keyOf e = k := fun e he => by
    obtain ⟨k, t, hk⟩ := h e he
    have hr' := hr (keyOf e) (List.mem_map.mpr ⟨e, he, rfl⟩)
    rw [hk] at hr'
    simp only [keyOf] at hr'
    refine ⟨k.toNat, by omega, by omega, ?_, ?_⟩
    · rw [hk, Int.toNat_of_nonneg (by omega)]
    · rw [hk, Int.toNat_of_nonneg (by omega)]; rfl
  refine ⟨?_, fun e he => let ⟨k, a, b, c, _⟩ := key e he; ⟨k, a, b, c⟩⟩
  unfold List.Nodup at hn ⊢
  rw [List.pairwise_map] at hn ⊢
  refine hn.imp_of_mem ?_
  intro a c ha hc hac e
  obtain ⟨k, k1, k2, k3, k4⟩ := key a ha
  obtain ⟨k', k1', k2', k3', k4'⟩ := key c hc
  rw [k3, k3'] at e
  exact hac (by rw [k4, k4', hash_inj (by omega) (by omega) e])

section
variable {prog : Program} {w : World} {A : Around} {E : Value → Shared → Prop} {s : Shared} {K : Frag} {mg mb : Str → Option Value} {b : Heap} {L : Addr} {m : Str → Option Value} {ld : Ld} {env : Env} {sc : Scope}
  {a : Addr} {o : Obj} {ks : List Int} {k : Int} {tk : Tok}

theorem k_in {Q : Value → Shared → Prop} (z : Z b L m ld s.heap) (ha : ld a = some o) (hS : SetK w o ks)
    (h : Q (.bool (decide (k ∈ ks))) { s with toks := s.toks + 1 }) : wpAny (model prog w) A (compareOp .In (.int k tk) (.ref a)) Q E s := by
  obtain ⟨es, ep, t, rfl, hE, rfl, hf, hnd, hb, hT, hL, hR⟩ := hS
  exact s_in z ha hE hf (by simp at hb; omega) h
theorem k_notin {Q : Value → Shared → Prop} (z : Z b L m ld s.heap) (ha : ld a = some o) (hS : SetK w o ks)
    (h : Q (.bool (!decide (k ∈ ks))) { s with toks := s.toks + 1 }) : wpAny (model prog w) A (compareOp .NotIn (.int k tk) (.ref a)) Q E s := by
  obtain ⟨es, ep, t, rfl, hE, rfl, hf, hnd, hb, hT, hL, hR⟩ := hS
  exact s_notin z ha hE hf (by simp at hb; omega) h
theorem k_len {Q : Value → Shared → Prop} (z : Z b L m ld s.heap) (ha : ld a = some o) (hS : SetK w o ks)
    (h : ∀ t' tk', Q (.int ks.length t') { s with toks := tk' }) : wpAny (model prog w) A (call (.builtin "len") [.ref a]) Q E s := by
  obtain ⟨es, ep, t, rfl, hE, rfl, hf, hnd, hb, hT, hL, hR⟩ := hS
  refine s_len z ha hf (by simp at hb; omega) fun t' tk' => ?_
  have := h t' tk'
  simpa using this
theorem km_add {pl : Sem Bool} {Q : Value × List Value → Shared → Prop} (z : Z b L m ld s.heap) (ha : ld a = some o) (hS : SetK w o ks) (h : Q (.builtin "set.add", [.ref a]) s) :
    wpAny (model prog w) A (getMethod (.ref a) "add" pl) Q E s := by
  obtain ⟨es, ep, t, rfl, hE, rfl, hf, hnd, hb, hT, hL, hR⟩ := hS
  exact sm_add z ha h
theorem km_discard {pl : Sem Bool} {Q : Value × List Value → Shared → Prop} (z : Z b L m ld s.heap) (ha : ld a = some o) (hS : SetK w o ks) (h : Q (.builtin "set.discard", [.ref a]) s) :
    wpAny (model prog w) A (getMethod (.ref a) "discard" pl) Q E s := by
  obtain ⟨es, ep, t, rfl, hE, rfl, hf, hnd, hb, hT, hL, hR⟩ := hS
  exact sm_discard z ha h

theorem Z.same {oa : Obj} (z : Z b L m ld s.heap) (ha : ld a = some oa) (hn : New b a) : Z b L m (upd ld a oa) s.heap :=
  z.mono (fun c oc e => by
    by_cases q : c = a
    · subst q; rw [upd_self] at e; cases e; exact ha
    · rw [upd_ne q] at e; exact e) fun c oc e => by
    by_cases q : c = a
    · subst q; rw [hn.none] at e; cases e
    · rw [upd_ne q]; exact z.base _ _ e

theorem k_add {Q : Value → Shared → Prop} (z : Z b L m ld s.heap) (ha : ld a = some o) (hn : New b a) (hS : SetK w o ks) (hk : 1 ≤ k ∧ k ≤ 9) (hl : ks.length < 800)
    (h : ∀ h' o' ks' tk', Z b L m (upd ld a o') h' → SetK w o' ks' → ks'.Perm (if k ∈ ks then ks else k :: ks) → Q .none { s with heap := h', toks := tk' }) :
    wpAny (model prog w) A (call (.builtin "set.add") [.ref a, .int k tk]) Q E s := by
  obtain ⟨es, ep, t, rfl, hE, rfl, hf, hnd, hb, hT, hL, hR⟩ := hS
  refine s_add z ha hn hE hf (by simp at hl; omega) (fun hm tk' => ?_) fun hm h' ep' tk' z' => ?_
  · exact h _ _ _ _ (z.same ha hn) ⟨es, ep, t, rfl, hE, rfl, hf, hnd, hb, hT, hL, hR⟩ (by rw [if_pos hm])
  · have hp := addPure_perm t es (hashInt k) (.int k tk)
    have hpk : ((addPure t es (hashInt k) (.int k tk)).1.toList.map keyOf).Perm (k :: es.toList.map keyOf) := by
      refine (hp.map keyOf).trans ?_
      rw [List.map_append]
      exact List.perm_append_comm
    have hsm := hE.small hnd hR
    obtain ⟨n, rfl⟩ := Int.eq_ofNat_of_zero_le (show 0 ≤ k by omega)
    have hhn : hashInt (n : Int) ∉ es.toList.map (·.1) := fun q => by
      obtain ⟨e, he, q⟩ := List.mem_map.mp q
      obtain ⟨k', t', hk'⟩ := hE e he
      have hr' := hR (keyOf e) (List.mem_map.mpr ⟨e, he, rfl⟩)
      have hke : keyOf e = k' := by rw [hk']; rfl
      rw [hke] at hr'
      obtain ⟨n', rfl⟩ := Int.eq_ofNat_of_zero_le (show 0 ≤ k' by omega)
      rw [hk'] at q
      have := hash_inj (by omega) (by omega) q
      subst this
      exact hm (List.mem_map.mpr ⟨e, he, hke⟩)
    obtain ⟨hT', hL'⟩ := addPure_ok (x := .int n tk) hT hf (by omega) hsm hhn
    refine h _ _ _ _ z' ⟨_, _, _, rfl, Els.perm ?_ hp, rfl, addPure_fits _ _ _ _, ?_, ?_, hT', hL'.trans hL, fun k' hk' => ?_⟩ (by rw [if_neg hm]; exact hpk)
    · intro e he
      rcases List.mem_append.mp he with he | he
      · exact hE e he
      · rw [List.mem_singleton.mp he]; exact ⟨n, tk, rfl⟩
    · exact hpk.nodup_iff.mpr (List.nodup_cons.mpr ⟨hm, hnd⟩)
    · rw [hpk.length_eq, List.length_cons]; omega
    · rcases List.mem_cons.mp (hpk.mem_iff.mp hk') with q | q
      · rw [q]; exact hk
      · exact hR _ q

theorem k_discard {Q : Value → Shared → Prop} (z : Z b L m ld s.heap) (ha : ld a = some o) (hn : New b a) (hS : SetK w o ks)
    (h : ∀ h' o' tk', Z b L m (upd ld a o') h' → SetK w o' (ks.erase k) → Q .none { s with heap := h', toks := tk' }) :
    wpAny (model prog w) A (call (.builtin "set.discard") [.ref a, .int k tk]) Q E s := by
  obtain ⟨es, ep, t, rfl, hE, rfl, hf, hnd, hb, hT, hL, hR⟩ := hS
  refine s_discard z ha hn hE hf (by simp at hb; omega) (fun hm tk' => ?_) fun i hi h' ep' tk' z' => ?_
  · exact h _ _ _ (z.same ha hn) (by rw [List.erase_of_not_mem hm]; exact ⟨es, ep, t, rfl, hE, rfl, hf, hnd, hb, hT, hL, hR⟩)
  · obtain ⟨hlt, hget⟩ := List.getElem?_eq_some_iff.mp hi
    have hlt' : i < es.size := by simpa using hlt
    have herase : (es.toList.map keyOf).erase k = (es.toList.map keyOf).eraseIdx i := by
      rw [List.erase_eq_eraseIdx_of_idxOf (i := i)]
      rw [← hget]
      exact hnd.idxOf_getElem i hlt
    have hpz : t.place.size = es.size := by
      unfold SetTable.fits at hf
      rw [Bool.and_eq_true] at hf
      exact eq_of_beq hf.1
    obtain ⟨hT', hL'⟩ := drop_ok hT (i := i) (by omega)
    refine h _ _ _ z' ⟨_, _, _, rfl, ?_, ?_, ?_, hnd.sublist List.erase_sublist, ?_, hT', hL'.trans hL, fun k' hk' => hR _ (List.erase_sublist.mem hk')⟩
    · rw [eraseAt_toList]; intro e he; exact hE e (List.mem_of_mem_eraseIdx he)
    · rw [eraseAt_toList, herase, List.eraseIdx_eq_take_drop_succ, List.eraseIdx_eq_take_drop_succ, List.map_append, List.map_take, List.map_drop]
    · have : (SetTable.eraseAt es i).size = es.size - 1 := by
        rw [← Array.length_toList, eraseAt_toList, List.length_eraseIdx_of_lt (by simpa using hlt'), Array.length_toList]
      rw [this]; exact drop_fits hlt' hf
    · exact Nat.lt_of_le_of_lt (List.length_erase_le ..) hb
end
end Mine

namespace Mine
noncomputable abbrev PP : Program := PySem.Challenge.rw_nc0035_02.row.prog
noncomputable abbrev KK (w : World) : Frag := hd02.heap_39 w.params

section
variable {w : World} {A : Around} {E : Value → Shared → Prop} {s : Shared} {mg mb : Str → Option Value} {b : Heap}

set_option maxHeartbeats 1000000 in
theorem value_spec {a ad x1 : Addr} {es : List DictEntry} {n : Nat} {o : Obj} {kvs : List (Int × Value)} {i : Int} {t : Tok} {Q : Value → Shared → Prop}
    (C : Cx (KK w) mg mb b) (hB : Bs b s.heap) (r : Room A 1) (ha : s.heap.get? a = some (instObj 254 ad)) (had : s.heap.get? ad = some (dictOf es n)) (hdt : getL "_data" es = some (some (.ref x1)))
    (hx : s.heap.get? x1 = some o) (hn : New b x1) (hk : o.IsDictOf (intKind PP w) kvs)
    (h : ∀ h' tk, Led s.heap.get? h' → Q ((valueAt kvs i).getD .none) { s with heap := h', toks := tk }) :
    wpAny (model PP w) A (call (.ref 227) [.ref a, .int i t]) Q E s := by
  refine enter (n := 0) C hB r rfl rfl rfl (BindsTo.of_eq rfl) rfl rfl rfl rfl rfl rfl rfl rfl ?_
  intro A' env L h₁ tk r' e z
  refine wpAny_execs_cons (wpAny_Return_some (MethodCall_ ?_))
  refine Attribute_Name_ (ev_loc e z rfl ?_)
  refine ga_own C z ha had hdt rfl rfl rfl rfl ?_
  refine dm_get z hx hk ?_
  refine callWith_method1 (args_cons (ev_loc e z rfl (args_nil ?_)))
  refine d_get C z hx hn hk ?_
  exact h _ _ z.led

/-- attribute facts of a clause's dict -/
structure ClDict (es : List DictEntry) (l : Addr) : Prop where
  lits : getL "lits" es = some (some (.ref l))
  rewatch : getL "rewatch" es = some none
structure AsDict (es : List DictEntry) (x1 : Addr) : Prop where
  data : getL "_data" es = some (some (.ref x1))
  value : getL "value" es = some none

/-- what rewatch makes of a clause's wishes, and what it tells -/
def rwPick (f : Int → Option Bool) : List Int → Nat → Option (Nat × Int)
  | [], _ => none
  | c :: r, i => if f c = some false then rwPick f r (i + 1) else some (i, c)
def rwSwap (lits : List Int) (lit : Int) : List Int := match lits with
  | x :: y :: r => if x = -lit then y :: -lit :: r else x :: y :: r
  | l => l
def rwAfter (f : Int → Option Bool) (lits : List Int) (lit : Int) : List Int :=
  let l1 := rwSwap lits lit
  if f (l1.getD 0 0) = some true then l1 else
  match rwPick f (l1.drop 2) 0 with
  | some (n, c) => (l1.set 1 c).set (n + 2) (-lit)
  | none => l1
def rwTold (f : Int → Option Bool) (lits : List Int) (lit : Int) : Option Int :=
  let l1 := rwSwap lits lit
  if f (l1.getD 0 0) = some true then none else
  match rwPick f (l1.drop 2) 0 with
  | some _ => none
  | none => some (l1.getD 0 0)

theorem rwSwap_two (x y : Int) (rest : List Int) (lit : Int) : rwSwap (x :: y :: rest) lit = if x = -lit then y :: -lit :: rest else x :: y :: rest := rfl

/-- all but l is as in h₀ -/
def Rest (h₀ : Heap) (l : Addr) (ld : Ld) : Prop := ∀ c o, c ≠ l → h₀.get? c = some o → ld c = some o
theorem Rest.self {h₀ : Heap} {l : Addr} : Rest h₀ l h₀.get? := fun _ _ _ e => e
theorem Rest.tmp {h₀ : Heap} {l : Addr} {ld : Ld} (r : Rest h₀ l ld) {c : Addr} {o : Obj} (hc : ld c = none) : Rest h₀ l (upd ld c o) := fun x ox q e => by
  have := r x ox q e
  rw [upd_ne (fun q => by rw [q, hc] at this; cases this)]; exact this
theorem Rest.upd {h₀ : Heap} {l : Addr} {ld : Ld} (r : Rest h₀ l ld) {o : Obj} : Rest h₀ l (Mine.upd ld l o) := fun x ox q e => by
  rw [upd_ne q]; exact r x ox q e
theorem Rest.led {h₀ h : Heap} {l : Addr} {ld : Ld} {o : Obj} (r : Rest h₀ l ld) (hl : ld l = some o) (x : Led ld h) : Led (Mine.upd h₀.get? l o) h := fun c oc e => by
  by_cases q : c = l
  · subst q; rw [upd_self] at e; cases e; exact x _ _ hl
  · rw [upd_ne q] at e; exact x _ _ (r c oc q e)
theorem upd_tmp {ld : Ld} {a c : Addr} {o oc : Obj} (ha : ld a = none) (hc : ld c = some oc) : upd ld a o c = some oc := by
  rw [upd_ne (fun q => by rw [q, ha] at hc; cases hc)]; exact hc

theorem IntsAre.set : ∀ {vs : List Value} {ns : List Int}, IntsAre vs ns → ∀ (k : Nat) (n : Int) (t : Tok), IntsAre (vs.set k (.int n t)) (ns.set k n)
  | _, _, .nil, _, _, _ => .nil
  | _, _, .cons _ _ h, 0, n, t => .cons n t h
  | _, _, .cons n' t' h, k + 1, n, t => .cons n' t' (IntsAre.set h k n t)
theorem ne_of_cls {g : Ld} {a c : Addr} {o o' : Obj} (h1 : g a = some o) (h2 : g c = some o') (h : o.cls ≠ o'.cls) : a ≠ c := fun q => by
  rw [q, h2] at h1; cases h1; exact h rfl

set_option maxHeartbeats 2000000 in
theorem rewatch_spec {c cd l a ad x1 : Addr} {ces aes : List DictEntry} {cn an ln : Nat} {vs : List Value} {lits : List Int} {o : Obj} {kvs : List (Int × Value)} {f : Int → Option Bool} {lit : Int} {t : Tok} {Q : Value → Shared → Prop}
    (C : Cx (KK w) mg mb b) (hB : Bs b s.heap) (r : Room A 2)
    (hc : s.heap.get? c = some (instObj 94 cd)) (hcd : s.heap.get? cd = some (dictOf ces cn)) (hce : ClDict ces l)
    (hl : s.heap.get? l = some (listOf vs.toArray ln)) (hln : New b l) (hi : IntsAre vs lits) (hlen : 2 ≤ lits.length) (hlen' : lits.length ≤ 100) (hin : -lit ∈ lits.take 2)
    (ha : s.heap.get? a = some (instObj 254 ad)) (had : s.heap.get? ad = some (dictOf aes an)) (hae : AsDict aes x1)
    (hx : s.heap.get? x1 = some o) (hn : New b x1) (hk : o.IsDictOf (intKind PP w) kvs) (hf : ∀ k, valueAt kvs k = (f k).map .bool)
    (h : ∀ h' tk vs' v, Led (upd s.heap.get? l (listOf vs'.toArray ln)) h' → IntsAre vs' (rwAfter f lits lit) → (match rwTold f lits lit with | none => v = .none | some i => ∃ t, v = .int i t) → Q v { s with heap := h', toks := tk }) :
    wpAny (model PP w) A (call (.ref 57) [.ref c, .ref a, .int lit t]) Q E s := by
  refine enter (n := 1) C hB r rfl rfl rfl (BindsTo.of_eq rfl) rfl rfl rfl rfl rfl rfl rfl rfl ?_
  intro A' env L h₁ tk r' e z
  dsimp only at e
  have hvl : vs.length = lits.length := hi.length
  obtain ⟨x, y, rest, rfl⟩ : ∃ x y rest, lits = x :: y :: rest := by
    match lits, hlen with
    | x :: y :: rest, _ => exact ⟨x, y, rest, rfl⟩
  have hal : a ≠ l := ne_of_cls ha hl (by simp)
  have hadl : ad ≠ l := ne_of_cls had hl (by simp)
  have hxl : x1 ≠ l := ne_of_cls hx hl (by obtain ⟨es, ep, hex, _⟩ := hk; rw [hex.1]; simp)
  -- lits = self.lits
  refine wpAny_execs_cons (wpAny_Assign_Name (Attribute_Name_ (ev_loc e z rfl (ga_own C z hc hcd hce.lits rfl rfl rfl rfl (st_loc e z fun h₂ z => ?_)))))
  -- assert -lit in lits[:2]
  refine wpAny_execs_cons (wpAny_Assert r'.handled (wpAny_isTrue_Compare1 (wpAny_UnaryOp (ev_loc e z rfl (neg_int ?_)))))
  refine ev_upto e z rfl hl (by omega) fun t1 h₃ tk₃ ht1 z => ?_
  refine in_ints z upd_self (hi.take 2) (wpAny_truthy_bool ?_)
  rw [if_pos (decide_eq_true hin)]
  -- if lits[0] == -lit
  have hl' := upd_tmp (o := listOf (vs.take 2).toArray 0) ht1 hl
  refine wpAny_execs_cons (wpAny_mono (Q := fun fl s' => fl = Flow.next ∧ ∃ h tk m ld vs1, s' = { s with heap := h, toks := tk } ∧ Z b L m ld h ∧ m "lits" = some (.ref l) ∧ m "assignments" = some (.ref a) ∧ m "lit" = some (.int lit t) ∧
      ld l = some (listOf vs1.toArray ln) ∧ IntsAre vs1 (rwSwap (x :: y :: rest) lit) ∧ Rest s.heap l ld) ?_ ?_ fun _ _ x => x)
  · refine wpAny_If (wpAny_isTrue_Compare1 (Subscript_ (ev_loc e z rfl (wpAny_Constant_int (it_int z hl' hi (v := x) rfl (by decide) (by decide) fun t2 => ?_)))))
    refine wpAny_UnaryOp (ev_loc e z rfl (neg_int (eq_int (wpAny_truthy_bool ?_))))
    by_cases hq : x = -lit
    · rw [if_pos (by rw [hq]; exact beq_self_eq_true _)]
      refine wpAny_execs_cons (as_two (b := b) r' e ?_)
      refine args_cons (Subscript_ (ev_loc e z rfl (wpAny_Constant_int (it_int z hl' hi (v := y) rfl (by decide) (by decide) fun t3 => ?_))))
      refine args_cons (wpAny_UnaryOp (ev_loc e z rfl (neg_int (args_nil ?_))))
      refine ⟨_, _, _, _, rfl, z, fun h₄ z => ?_⟩
      refine as_sub (ev_loc e z rfl (wpAny_Constant_int (l_set z hl' hln (by decide) (by rw [hvl]; simp; omega) (by omega) fun h₅ z => ?_)))
      refine as_sub (ev_loc e z rfl (wpAny_Constant_int (l_set z upd_self hln (by decide) (by rw [List.length_set, hvl]; simp only [List.length_cons]; omega) (by rw [List.length_set]; omega) fun h₆ z => ?_)))
      refine wpAny_execs_nil ⟨rfl, _, _, _, _, _, rfl, z, rfl, rfl, rfl, upd_self, ?_, (Rest.self.tmp ht1).upd.upd⟩
      rw [rwSwap_two, if_pos hq]
      cases hi with
      | cons n1 t1 hi => cases hi with
        | cons n2 t2 hi => exact .cons _ _ (.cons _ _ hi)
    · rw [if_neg (by simpa using hq)]
      refine wpAny_execs_nil ⟨rfl, _, _, _, _, vs, rfl, z, rfl, rfl, rfl, hl', ?_, Rest.self.tmp ht1⟩
      rw [rwSwap_two, if_neg hq]; exact hi
  rintro fl s' ⟨rfl, h₄, tk₄, m, ld, vs1, rfl, z, hm1, hm2, hm3, hl1, hi1, hrest⟩
  dsimp only
  obtain ⟨x', y', hsw, hxy⟩ : ∃ x' y', rwSwap (x :: y :: rest) lit = x' :: y' :: rest ∧ y' = -lit := by
    rw [rwSwap_two]
    split
    · exact ⟨_, _, rfl, rfl⟩
    · rename_i hq
      refine ⟨_, _, rfl, ?_⟩
      simp only [List.take_succ_cons, List.take_zero, List.mem_cons, List.not_mem_nil, or_false] at hin
      exact (hin.resolve_left fun q => hq q.symm).symm
  have hafter : rwAfter f (x :: y :: rest) lit = if f x' = some true then x' :: y' :: rest else match rwPick f rest 0 with
      | some (n, c) => ((x' :: y' :: rest).set 1 c).set (n + 2) (-lit)
      | none => x' :: y' :: rest := by unfold rwAfter; rw [hsw]; rfl
  have htold : rwTold f (x :: y :: rest) lit = if f x' = some true then none else match rwPick f rest 0 with
      | some _ => none
      | none => some x' := by unfold rwTold; rw [hsw]; rfl
  rw [hsw] at hi1
  rw [hafter, htold] at h
  have hv1 : vs1.length = rest.length + 2 := hi1.length
  have hlr : rest.length ≤ 98 := by simp only [List.length_cons] at hlen'; omega
  -- if assignments.value(lits[0]) is True
  refine wpAny_execs_cons (wpAny_mono (Q := fun fl s' => (fl = Flow.next ∧ f x' ≠ some true ∧ ∃ h tk, s' = { s with heap := h, toks := tk } ∧ Z b L m ld h) ∨ (fl = Flow.ret .none ∧ f x' = some true ∧ ∃ h tk, s' = { s with heap := h, toks := tk } ∧ Z b L m ld h)) ?_ ?_ fun _ _ x => x)
  · refine wpAny_If (wpAny_isTrue_Compare1 (MethodCall_ (ev_loc e z hm2 (gm_inst C z (hrest _ _ hal ha) (hrest _ _ hadl had) hae.value rfl rfl rfl ?_))))
    refine cw_K C rfl (args_cons (Subscript_ (ev_loc e z hm1 (wpAny_Constant_int (it_int z hl1 hi1 (v := x') rfl (by decide) (by decide) fun t2 => args_nil ⟨z.stays, ?_⟩)))))
    refine value_spec C z.bs r' (z.led _ _ (hrest _ _ hal ha)) (z.led _ _ (hrest _ _ hadl had)) hae.data (z.led _ _ (hrest _ _ hxl hx)) hn hk fun h₅ tk₅ led₅ => ?_
    have z := z.call0 led₅
    rw [hf x']
    refine wpAny_Constant_bool (wpAny_is_plain ?_ (wpAny_truthy_bool ?_))
    · cases f x' <;> rfl
    cases hfx : f x' with
    | none => exact wpAny_execs_nil (.inl ⟨rfl, by simp, _, _, rfl, z⟩)
    | some bb =>
      cases bb with
      | false => exact wpAny_execs_nil (.inl ⟨rfl, by simp, _, _, rfl, z⟩)
      | true => exact wpAny_execs_cons (wpAny_Return_some (wpAny_Constant_none (.inr ⟨rfl, rfl, _, _, rfl, z⟩)))
  rintro fl s' (⟨rfl, hfx, h₅, tk₅, rfl, z⟩ | ⟨rfl, hfx, h₅, tk₅, rfl, z⟩)
  rotate_left
  · rw [if_pos hfx, if_pos hfx] at h
    exact h _ _ vs1 .none (hrest.led hl1 z.led) hi1 rfl
  dsimp only
  rw [if_neg hfx, if_neg hfx] at h
  -- the search
  have hdrop : IntsAre (vs1.drop 2) rest := hi1.drop 2
  have hpick : ∀ i, i ≤ rest.length → (∀ j c, j < i → rest[j]? = some c → f c = some false) → rwPick f rest 0 = rwPick f (rest.drop i) i := by
    have gen : ∀ (l : List Int) (k i : Nat), i ≤ l.length → (∀ j c, j < i → l[j]? = some c → f c = some false) → rwPick f l k = rwPick f (l.drop i) (k + i) := by
      intro l
      induction l with
      | nil => intro k i hi _; simp at hi; subst hi; rfl
      | cons c r ih =>
        intro k i hi hj
        cases i with
        | zero => rfl
        | succ i =>
          have h1 : f c = some false := hj 0 c (Nat.succ_pos _) rfl
          simp only [rwPick, h1, if_true, List.drop_succ_cons]
          rw [ih (k + 1) i (by simp at hi; omega) fun j c' hj' hc' => hj (j + 1) c' (by omega) hc']
          congr 1; omega
    intro i hi hj
    have := gen rest 0 i hi hj
    rwa [Nat.zero_add] at this
  refine wpAny_execs_cons (wpAny_mono (Q := fun fl s' => (fl = Flow.next ∧ rwPick f rest 0 = none ∧ ∃ h tk m ld, s' = { s with heap := h, toks := tk } ∧ Z b L m ld h ∧ m "lits" = some (.ref l) ∧ ld l = some (listOf vs1.toArray ln) ∧ Rest s.heap l ld) ∨
      (fl = Flow.ret .none ∧ ∃ n c, rwPick f rest 0 = some (n, c) ∧ ∃ h tk ld vs2, s' = { s with heap := h, toks := tk } ∧ Led ld h ∧ ld l = some (listOf vs2.toArray ln) ∧ IntsAre vs2 (((x' :: y' :: rest).set 1 c).set (n + 2) (-lit)) ∧ Rest s.heap l ld)) ?_ ?_ fun _ _ x => x)
  · refine wpAny_For (Call_ (ev_bi e C z rfl PyProof.Rows.boot_enumerate (Pv.callWith_type1 (args_cons ?_)))) (by intro _; rfl)
    refine ev_from e z hm1 hl1 (by omega) fun ax h₆ tk₆ hax z => args_nil ?_
    have hsub : ∀ c o, ld c = some o → upd ld ax (listOf (vs1.drop 2).toArray 0) c = some o := fun c o q => upd_tmp hax q
    refine iter_enum r' e z upd_self (fun i m ld => m "lits" = some (.ref l) ∧ m "assignments" = some (.ref a) ∧ m "lit" = some (.int lit t) ∧ ld l = some (listOf vs1.toArray ln) ∧ Rest s.heap l ld ∧
      ∀ j c, j < i → rest[j]? = some c → f c = some false) ?_ ?_ ?_ ?_
    · intro ld₁ hs
      exact ⟨hm1, hm2, hm3, hs _ _ (hsub _ _ hl1), fun c o q e => hs _ _ (hsub _ _ (hrest c o q e)), fun j c hj => absurd hj (Nat.not_lt_zero _)⟩
    · rintro I I' hI hI' i m₁ l₁ l₂ ⟨j1, j2, j3, j4, j5, j6⟩ hk
      have hne : ∀ c o, ld c = some o → l₂ c = l₁ c := fun c o q => hk c (fun q' => by rw [← q', hsub _ _ q] at hI; cases hI) (fun q' => by rw [← q', hsub _ _ q] at hI'; cases hI')
      exact ⟨j1, j2, j3, (hne _ _ hl1).trans j4, fun c o q e => (hne _ _ (hrest c o q e)).trans (j5 c o q e), j6⟩
    · rintro I I' oI oI' i t' v m₁ lq h₇ tk₇ hI hI' hoI hoI' hv ⟨j1, j2, j3, j4, j5, j6⟩ hqx z
      obtain ⟨n, hrn, t8, rfl⟩ : ∃ n, rest[i]? = some n ∧ ∃ t8, v = .int n t8 := by
        have hlt : i < (vs1.drop 2).length := by
          have := (Array.getElem?_eq_some_iff.mp hv).1; simpa using this
        have hlt' : i < rest.length := by rw [hdrop.length] at hlt; exact hlt
        obtain ⟨t8, q⟩ := hdrop.get i rest[i] (by simp [hlt'])
        have hv' : (vs1.drop 2)[i]? = some v := by simpa using hv
        rw [q] at hv'; cases hv'
        exact ⟨rest[i], by simp [hlt'], t8, rfl⟩
      -- if assignments.value(other) is not False
      refine wpAny_execs_cons (wpAny_mono (Q := fun fl s' => (fl = Flow.next ∧ f n = some false ∧ ∃ h tk, s' = { s with heap := h, toks := tk } ∧ Z b L (fun y => if y = "other" then some (.int n t8) else if y = "n" then some (.int i t') else m₁ y) lq h) ∨
          (fl = Flow.ret .none ∧ f n ≠ some false ∧ ∃ h tk ld vs2, s' = { s with heap := h, toks := tk } ∧ Led ld h ∧ ld l = some (listOf vs2.toArray ln) ∧ IntsAre vs2 (((x' :: y' :: rest).set 1 n).set (i + 2) (-lit)) ∧ Rest s.heap l ld)) ?_ ?_ fun _ _ x => x)
      · refine wpAny_If (wpAny_isTrue_Compare1 (MethodCall_ (ev_loc e z j2 (gm_inst C z (j5 _ _ hal ha) (j5 _ _ hadl had) hae.value rfl rfl rfl ?_))))
        refine cw_K C rfl (args_cons (ev_loc e z rfl (args_nil ⟨z.stays, ?_⟩)))
        refine value_spec C z.bs r' (z.led _ _ (j5 _ _ hal ha)) (z.led _ _ (j5 _ _ hadl had)) hae.data (z.led _ _ (j5 _ _ hxl hx)) hn hk fun h₈ tk₈ led₈ => ?_
        have z := z.call0 led₈
        rw [hf n]
        refine wpAny_Constant_bool (wpAny_isNot_plain ?_ (wpAny_truthy_bool ?_))
        · cases f n <;> rfl
        by_cases hfn : f n = some false
        · rw [hfn]
          exact wpAny_execs_nil (.inl ⟨rfl, rfl, _, _, rfl, z⟩)
        · rw [if_pos (by cases q : f n with | none => rfl | some bb => cases bb with | false => exact absurd q hfn | true => rfl)]
          have hlt : i < rest.length := (List.getElem?_eq_some_iff.mp hrn).1
          refine wpAny_execs_cons (as_two (b := b) r' e ?_)
          refine args_cons (ev_loc e z rfl (args_cons (wpAny_UnaryOp (ev_loc e z j3 (neg_int (args_nil ?_))))))
          refine ⟨_, _, _, _, rfl, z, fun h₉ z => ?_⟩
          refine as_sub (ev_loc e z j1 (wpAny_Constant_int (l_set z j4 hln (by decide) (by rw [hv1]; omega) (by omega) fun h₁₀ z => ?_)))
          refine as_sub (ev_loc e z j1 (wpAny_BinOp (ev_loc e z rfl (wpAny_Constant_int (add_int (l_set z upd_self hln (by omega) (by rw [List.length_set, hv1]; omega) (by rw [List.length_set]; omega) fun h₁₁ z => ?_))))))
          refine wpAny_execs_cons (wpAny_Return_some (wpAny_Constant_none (.inr ⟨rfl, hfn, _, _, _, _, rfl, z.led, upd_self, ?_, j5.upd.upd⟩)))
          have e1 : ((i : Int) + 2).toNat = i + 2 := by omega
          have e2 : (1 : Int).toNat = 1 := rfl
          rw [e1, e2]
          exact IntsAre.set (IntsAre.set hi1 1 n t8) (i + 2) (-lit) _
      · rintro fl s' (⟨rfl, hfn, h₈, tk₈, rfl, z⟩ | ⟨rfl, hfn, h₈, tk₈, ld2, vs2, rfl, led2, hl2, hi2, hr2⟩)
        · refine wpAny_execs_nil ⟨h₈, tk₈, _, lq, rfl, z, ⟨j1, j2, j3, j4, j5, fun j c hj hc' => ?_⟩, fun _ _ => rfl⟩
          rcases Nat.lt_succ_iff_lt_or_eq.mp hj with hj | rfl
          · exact j6 j c hj hc'
          · rw [hrn] at hc'; cases hc'; exact hfn
        · refine .inr ⟨rfl, i, n, ?_, h₈, tk₈, ld2, vs2, rfl, led2, hl2, hi2, hr2⟩
          have hlt : i < rest.length := (List.getElem?_eq_some_iff.mp hrn).1
          rw [hpick i (Nat.le_of_lt hlt) j6, List.drop_eq_getElem_cons hlt]
          have : rest[i] = n := (List.getElem?_eq_some_iff.mp hrn).2
          simp only [rwPick, this, hfn, if_false]
    · rintro m₁ lq h₇ tk₇ ⟨j1, j2, j3, j4, j5, j6⟩ z
      refine .inl ⟨rfl, ?_, h₇, tk₇, m₁, lq, rfl, z, j1, j4, j5⟩
      rw [hpick rest.length (Nat.le_refl _) fun j c hj hc' => j6 j c (by simp [hv1]; omega) hc', List.drop_length]; rfl
  rintro fl s' (⟨rfl, hp, h₆, tk₆, m, ld, rfl, z, hm1, hl1, hrest⟩ | ⟨rfl, n, c, hp, h₆, tk₆, ld, vs2, rfl, led, hl2, hi2, hrest⟩)
  rotate_left
  · rw [hp] at h
    exact h _ _ vs2 .none (hrest.led hl2 led) hi2 rfl
  dsimp only
  rw [hp] at h
  refine wpAny_execs_cons (wpAny_Return_some (Subscript_ (ev_loc e z hm1 (wpAny_Constant_int (it_int z hl1 hi1 (v := x') rfl (by decide) (by decide) fun t2 => ?_)))))
  exact h _ _ vs1 _ (hrest.led hl1 z.led) hi1 ⟨t2, rfl⟩
end
end Mine

namespace Mine

def newsX (b : Heap) (ld : Ld) (n : Nat) (dx : Addr) : List (Addr × Obj) := (List.range n).filterMap fun a => if a = dx ∨ (b.get? a).isSome = true then none else (ld a).map fun o => (a, o)
theorem mem_newsX {b : Heap} {ld : Ld} {n : Nat} {dx a : Addr} {o : Obj} : (a, o) ∈ newsX b ld n dx ↔ @LT.lt Nat _ a n ∧ a ≠ dx ∧ b.get? a = none ∧ ld a = some o := by
  unfold newsX
  rw [List.mem_filterMap]
  constructor
  · rintro ⟨c, hc, h⟩
    split at h
    · cases h
    · rename_i q
      obtain ⟨o', h1, h2⟩ := Option.map_eq_some_iff.mp h
      cases h2
      exact ⟨List.mem_range.mp hc, fun e => q (.inl e), by cases e : b.get? a with | none => rfl | some x => exact absurd (.inr (by rw [e]; rfl)) q, h1⟩
  · rintro ⟨h1, h2, h3, h4⟩
    refine ⟨a, List.mem_range.mpr h1, ?_⟩
    rw [if_neg (by rintro (q | q); exact h2 q; rw [h3] at q; cases q), h4]; rfl

section
variable {prog : Program} {w : World} {A : Around} {E : Value → Shared → Prop} {s : Shared} {K : Frag} {mg mb : Str → Option Value} {b : Heap} {L : Addr} {m : Str → Option Value} {ld : Ld} {env : Env} {sc : Scope}

theorem Z.newsX (z : Z b L m ld s.heap) (dx : Addr) : News b L s.heap (newsX b ld s.heap.objs.size dx) := fun p hp => by
  obtain ⟨h1, h2, h3, h4⟩ := mem_newsX.mp hp
  exact ⟨z.led _ _ h4, z.neL h4, h3⟩
theorem newsX_ne {n : Nat} {dx : Addr} : ∀ p ∈ newsX b ld n dx, p.1 ≠ dx := fun p hp => (mem_newsX.mp hp).2.1
theorem Z.ofX (z : Z b L m ld s.heap) {h' : Heap} {m' : Loc} {dx : Addr} {o' : Obj} (F' : Fr b L h' m') (N' : News b L h' ((dx, o') :: Mine.newsX b ld s.heap.objs.size dx)) : Z b L m' (upd ld dx o') h' where
  ns := F'.ns
  led := fun a o e => by
    by_cases q : a = dx
    · subst q; rw [upd_self] at e; cases e; exact (N' _ (.head _)).1
    · rw [upd_ne q] at e
      cases hb : b.get? a with
      | some ob => have := z.base _ _ hb; rw [e] at this; cases this; exact F'.keep _ _ hb
      | none => exact (N' _ (.tail _ (mem_newsX.mpr ⟨z.lt e, q, hb, e⟩))).1
  fr := by rw [upd_ne fun q => (N' _ (.head _)).2.1 q.symm]; exact z.fr
  base := fun a o e => by
    rw [upd_ne fun q => by have := (N' _ (.head _)).2.2; rw [← q] at this; dsimp only at this; rw [e] at this; cases this]
    exact z.base _ _ e
  above := z.above

/-- a statement that is a call; what it hands back is no object -/
theorem ex_flat {ex : Expr} {pos : Pos} {Q : Flow → Shared → Prop} (e : EnvIs env sc L) (h : wpAny (model prog w) A (eval ex env) (fun v s' => (∀ a, v ≠ .ref a) ∧ Q .next s') E s)
    (hsw : swapsWith ex none pos.line env = pure false := by rfl) : wpAny (model prog w) A (exec (.Expr ex pos) env) Q E s :=
  wpAny_Expr (wpAny_mono h (fun v _ q => by cases v <;> first | exact q.2 | exact absurd rfl (q.1 _)) fun _ _ x => x) e.still hsw

theorem set_inst {x Cl dx f : Addr} {es : List DictEntry} {n : Nat} {i v : Value} {Q : Unit → Shared → Prop} (C : Cx K mg mb b) (z : Z b L m ld s.heap) (hc : ld x = some (instObj Cl dx)) (hd : ld dx = some (dictOf es n))
    (hq : noSeq K Cl = true) (hs : findIn K (.ref Cl) "__setitem__" = some (some (.ref f))) (hf : isFn K (.ref f) = true)
    (h : wpAny (model prog w) A (call (.ref f) [.ref x, i, v]) (fun _ s' => Q () s') E s) : wpAny (model prog w) A (setItem (.ref x) i v) Q E s :=
  ksp_setItem z.F C.X (inst_at z hc hd) hq hs hf h
theorem del_inst {x Cl dx f : Addr} {es : List DictEntry} {n : Nat} {i : Value} {Q : Unit → Shared → Prop} (C : Cx K mg mb b) (z : Z b L m ld s.heap) (hc : ld x = some (instObj Cl dx)) (hd : ld dx = some (dictOf es n))
    (hq : noSeq K Cl = true) (hs : findIn K (.ref Cl) "__delitem__" = some (some (.ref f))) (hf : isFn K (.ref f) = true)
    (h : wpAny (model prog w) A (call (.ref f) [.ref x, i]) (fun _ s' => Q () s') E s) : wpAny (model prog w) A (delItem (.ref x) i) Q E s := by
  have X := C.X.keeps z.stays
  have I := inst_at z hc hd
  unfold delItem sequenceKey
  refine wpAny_holding (wpAny_bind (wpAny_bind (I.type.here ?_)))
  refine wpAny_bind ((anyM_none X hq).here ?_)
  rw [if_pos (show (!false) = true from rfl)]
  exact wpAny_pure (wpAny_bind (special_fn X I hs (beq_iff_eq.mp hf) (wpAny_mono h (fun _ _ z => wpAny_pure z) fun _ _ z => z)))

/-- self.name = v -/
theorem sa_own {x Cl dx : Addr} {es : List DictEntry} {es' : Tok → List DictEntry} {n n' : Nat} {name : Str} {v : Value} {Q : Unit → Shared → Prop} (C : Cx K mg mb b) (z : Z b L m ld s.heap) (hc : ld x = some (instObj Cl dx)) (hd : ld dx = some (dictOf es n)) (hn : New b dx)
    (hs : findIn K (.ref Cl) "__setattr__" = some (some (.builtin "object.__setattr__"))) (hp : plainOver K Cl = true) (ht : takerIn K Cl name = some none) (hh : hasDictIn K Cl = true) (hl : (getL name es).isSome = true)
    (e : ∀ tk, (putL name (PyData.keyHash w.params name) (.str name tk) v es, putN name es n) = (es' tk, n')) (hz : ∀ tk, (es' tk).length ≤ 1000)
    (h : ∀ h' tk tk', Z b L m (upd ld dx (dictOf (es' tk) n')) h' → Q () { s with heap := h', toks := tk' }) :
    wpAny (model prog w) A (setAttr (.ref x) name v) Q E s := by
  refine set_dict (news := (dx, dictOf es n) :: newsX b ld s.heap.objs.size dx) z.F C.X ?_ (inst_at z hc hd) rfl hs hp ht hh hl (e _) (.head newsX_ne) (hz _) fun h' F' N' => h h' _ _ (z.ofX F' N')
  intro p hp
  rcases List.mem_cons.mp hp with rfl | hp
  · exact ⟨z.led _ _ hd, z.neL hd, hn.none⟩
  · exact z.newsX dx p hp
end
end Mine

namespace Mine

/-- the attributes of an AssignmentSet -/
def asEs (h1 h2 h3 h4 h5 h6 : Int) (t1 t2 t3 t4 t5 t6 : Tok) (x1 x2 x3 x4 x5 : Addr) : List DictEntry :=
  [⟨h1, .str "_data" t1, .ref x1⟩, ⟨h2, .str "_orig" t2, .ref x2⟩, ⟨h3, .str "_seen" t3, .ref x3⟩, ⟨h4, .str "_cached_changelog" t4, .none⟩, ⟨h5, .str "_assigned_ids" t5, .ref x4⟩, ⟨h6, .str "new_keys" t6, .ref x5⟩]

def Flat2 (v : Value) : Prop := v = .none ∨ ∃ c, v = .bool c

structure AsAddr where
  a : Addr
  ad : Addr
  x1 : Addr
  x2 : Addr
  x3 : Addr
  x4 : Addr
  x5 : Addr
/-- the addresses that turn -/
def AsAddr.W (p : AsAddr) : List Addr := [p.ad, p.x1, p.x2, p.x3, p.x4, p.x5]
structure AsAddr.Ok (b : Heap) (p : AsAddr) : Prop where
  nad : New b p.ad
  n1 : New b p.x1
  n2 : New b p.x2
  n3 : New b p.x3
  n4 : New b p.x4
  n5 : New b p.x5
  d1 : p.ad ≠ p.x1
  d2 : p.ad ≠ p.x2
  d12 : p.x1 ≠ p.x2
  d34 : p.x3 ≠ p.x4
  d35 : p.x3 ≠ p.x5
  d45 : p.x4 ≠ p.x5

structure AS (prog : Program) (w : World) (ld : Ld) (p : AsAddr) (f : Int → Option Bool) (seen asg : List Int) : Prop where
  inst : ld p.a = some (instObj 254 p.ad)
  dict : ∃ h1 h2 h3 h4 h5 h6 t1 t2 t3 t4 t5 t6 n, ld p.ad = some (dictOf (asEs h1 h2 h3 h4 h5 h6 t1 t2 t3 t4 t5 t6 p.x1 p.x2 p.x3 p.x4 p.x5) n)
  data : ∃ o kvs, ld p.x1 = some o ∧ o.IsDictOf (intKind prog w) kvs ∧ (∀ k, valueAt kvs k = (f k).map .bool) ∧ (∀ k v, valueAt kvs k = some v → -9 ≤ k ∧ k ≤ 9)
  orig : ∃ o kvs, ld p.x2 = some o ∧ o.IsDictOf (intKind prog w) kvs ∧ (∀ k v, valueAt kvs k = some v → Flat2 v) ∧ (∀ k v, valueAt kvs k = some v → -9 ≤ k ∧ k ≤ 9)
  seen : ∃ o, ld p.x3 = some o ∧ SetK w o seen ∧ ∀ k ∈ seen, 1 ≤ k ∧ k ≤ 9
  asg : ∃ o, ld p.x4 = some o ∧ SetK w o asg ∧ ∀ k ∈ asg, 1 ≤ k ∧ k ≤ 9
  nk : ∃ o ks, ld p.x5 = some o ∧ SetK w o ks ∧ ∀ k ∈ ks, 1 ≤ k ∧ k ≤ 9

theorem AS.congr {prog : Program} {w : World} {ld ld' : Ld} {p : AsAddr} {f : Int → Option Bool} {seen asg : List Int} (h : AS prog w ld p f seen asg) (ha : ld' p.a = ld p.a) (e : ∀ c ∈ p.W, ld' c = ld c) : AS prog w ld' p f seen asg where
  inst := ha.trans h.inst
  dict := let ⟨h1, h2, h3, h4, h5, h6, t1, t2, t3, t4, t5, t6, n, q⟩ := h.dict; ⟨h1, h2, h3, h4, h5, h6, t1, t2, t3, t4, t5, t6, n, (e _ (by simp [AsAddr.W])).trans q⟩
  data := let ⟨o, kvs, q, r⟩ := h.data; ⟨o, kvs, (e _ (by simp [AsAddr.W])).trans q, r⟩
  orig := let ⟨o, kvs, q, r⟩ := h.orig; ⟨o, kvs, (e _ (by simp [AsAddr.W])).trans q, r⟩
  seen := let ⟨o, q, r⟩ := h.seen; ⟨o, (e _ (by simp [AsAddr.W])).trans q, r⟩
  asg := let ⟨o, q, r⟩ := h.asg; ⟨o, (e _ (by simp [AsAddr.W])).trans q, r⟩
  nk := let ⟨o, ks, q, r⟩ := h.nk; ⟨o, ks, (e _ (by simp [AsAddr.W])).trans q, r⟩

theorem rng_le {l : List Int} (hn : l.Nodup) (h : ∀ k ∈ l, -9 ≤ k ∧ k ≤ 9) : l.length ≤ 19 := by
  have : l.length ≤ ((List.range 19).map fun (i : Nat) => (i : Int) - 9).length := hn.length_le_of_subset fun k hk => by
    obtain ⟨h1, h2⟩ := h k hk
    exact List.mem_map.mpr ⟨(k + 9).toNat, List.mem_range.mpr (by omega), by omega⟩
  simpa using this
theorem dict_le {prog : Program} {w : World} {o : Obj} {kvs : List (Int × Value)} (hk : o.IsDictOf (intKind prog w) kvs) (h : ∀ k v, valueAt kvs k = some v → -9 ≤ k ∧ k ≤ 9) : kvs.length ≤ 19 := by
  obtain ⟨es, ep, _, _, _, _, hn⟩ := hk
  have := rng_le hn fun k hk => by
    obtain ⟨p, hp, rfl⟩ := List.mem_map.mp hk
    obtain ⟨i, hi, hp'⟩ := List.getElem_of_mem hp
    exact h p.1 p.2 (valueAt_of_get (i := i) hn (by rw [List.getElem?_eq_getElem hi, hp']))
  simpa using this
theorem set_le {w : World} {o : Obj} {ks : List Int} (h : SetK w o ks) (hr : ∀ k ∈ ks, 1 ≤ k ∧ k ≤ 9) : ks.length ≤ 19 := by
  obtain ⟨es, ep, t, _, _, _, _, hn, _⟩ := h
  exact rng_le hn fun k hk => by have := hr k hk; omega
theorem setK_cls {w : World} {o : Obj} {ks : List Int} (h : SetK w o ks) : o.cls = .type "set" := by obtain ⟨es, ep, t, rfl, _⟩ := h; rfl
theorem dictOf_cls {prog : Program} {w : World} {o : Obj} {kvs : List (Int × Value)} (h : o.IsDictOf (intKind prog w) kvs) : o.cls = .type "dict" := by obtain ⟨es, ep, hex, _⟩ := h; exact hex.1

section
variable {w : World} {A : Around} {E : Value → Shared → Prop} {s : Shared} {mg mb : Str → Option Value} {b : Heap}

set_option maxHeartbeats 2000000 in
theorem update_diff_spec {p : AsAddr} {f : Int → Option Bool} {seen asg : List Int} {k : Int} {t : Tok} {v : Value} {Q : Value → Shared → Prop}
    (C : Cx (KK w) mg mb b) (hB : Bs b s.heap) (r : Room A 1) (hp : p.Ok b) (S : AS PP w s.heap.get? p f seen asg) (hkr : -9 ≤ k ∧ k ≤ 9) (hv : Flat2 v)
    (h : ∀ h' tk ld', Led ld' h' → (∀ c o, c ∉ p.W → s.heap.get? c = some o → ld' c = some o) → AS PP w ld' p f seen asg → Q .none { s with heap := h', toks := tk }) :
    wpAny (model PP w) A (call (.ref 192) [.ref p.a, .int k t, v]) Q E s := by
  refine enter (n := 0) C hB r rfl rfl rfl (BindsTo.of_eq rfl) rfl rfl rfl rfl rfl rfl rfl rfl ?_
  intro A' env L h₁ tk r' e z
  dsimp only at e
  obtain ⟨h1, h2, h3, h4, h5, h6, t1, t2, t3, t4, t5, t6, nn, hdict⟩ := S.dict
  obtain ⟨o1, kvs1, hx1, hk1, hf1, hl1⟩ := S.data
  obtain ⟨o2, kvs2, hx2, hk2, hf2, hl2⟩ := S.orig
  -- if key < 0 and value is not None
  refine wpAny_execs_cons (wpAny_mono (Q := fun fl s' => fl = Flow.next ∧ ∃ h tk m k t v, s' = { s with heap := h, toks := tk } ∧ Z b L m s.heap.get? h ∧ m "self" = some (.ref p.a) ∧ m "key" = some (.int k t) ∧ m "value" = some v ∧ -9 ≤ k ∧ k ≤ 9) ?_ ?_ fun _ _ x => x)
  · refine wpAny_If (isTrue_and (wpAny_isTrue_Compare1 (ev_loc e z rfl (wpAny_Constant_int (lt_int (wpAny_truthy_bool ?_))))))
    split
    · refine isTrue_and (wpAny_isTrue_Compare1 (ev_loc e z rfl (wpAny_Constant_none ?_)))
      refine wpAny_isNot_plain (by rcases hv with rfl | ⟨c, rfl⟩ <;> rfl) (wpAny_truthy_bool ?_)
      split
      · refine isTrue_and_nil ?_
        rw [if_pos rfl]
        refine wpAny_execs_cons (wpAny_Assign_Name (wpAny_UnaryOp (ev_loc e z rfl (neg_int (st_loc e z fun h₂ z => ?_)))))
        refine wpAny_execs_cons (wpAny_Assign_Name (wpAny_UnaryOp (ev_loc e z rfl (not_of ?_))))
        rcases hv with rfl | ⟨c, rfl⟩
        · simp at *
        · refine wpAny_truthy_bool (st_loc e z fun h₃ z => wpAny_execs_nil ⟨rfl, _, _, _, _, _, _, rfl, z, rfl, rfl, rfl, by omega, by omega⟩)
      · simp only [Bool.false_eq_true, if_false]
        exact wpAny_execs_nil ⟨rfl, _, _, _, _, _, _, rfl, z, rfl, rfl, rfl, by omega, by omega⟩
    · simp only [Bool.false_eq_true, if_false]
      exact wpAny_execs_nil ⟨rfl, _, _, _, _, _, _, rfl, z, rfl, rfl, rfl, by omega, by omega⟩
  rintro fl s' ⟨rfl, h₂, tk₂, m, k, t, v, rfl, z, hm1, hm2, hm3, hkr⟩
  dsimp only
  -- prev = self._data.get(key)
  refine wpAny_execs_cons (wpAny_Assign_Name (MethodCall_ (Attribute_Name_ (ev_loc e z hm1 (ga_own C z S.inst hdict rfl rfl rfl rfl rfl (dm_get z hx1 hk1 ?_))))))
  refine callWith_method1 (args_cons (ev_loc e z hm2 (args_nil ?_)))
  refine d_get C z hx1 hp.n1 hk1 (st_loc e z fun h₃ z => ?_)
  -- self._orig.setdefault(key, prev)
  refine wpAny_execs_cons (ex_flat e (MethodCall_ (Attribute_Name_ (ev_loc e z hm1 (ga_own C z S.inst hdict rfl rfl rfl rfl rfl (dm_setdefault z hx2 hk2 ?_))))))
  refine callWith_method1 (args_cons (ev_loc e z hm2 (args_cons (ev_loc e z rfl (args_nil ?_)))))
  refine d_setdefault C z hx2 hp.n2 hk2 (fun h₄ o2' kvs2' v' z hk2' hcase => ?_) (Nat.le_trans (dict_le hk2 hl2) (by decide))
  have hdf : Flat2 ((valueAt kvs1 k).getD .none) := by rw [hf1]; cases f k with | none => exact .inl rfl | some c => exact .inr ⟨c, rfl⟩
  have hv' : Flat2 v' := by
    rcases hcase with ⟨q, _⟩ | ⟨rfl, _⟩
    · exact hf2 _ _ q
    · exact hdf
  have hl2' : ∀ k v, valueAt kvs2' k = some v → -9 ≤ k ∧ k ≤ 9 := by
    rcases hcase with ⟨_, rfl⟩ | ⟨_, rfl⟩
    · exact hl2
    · intro k' v q
      rw [valueAt_stored] at q
      split at q
      · rename_i e; rw [e]; exact hkr
      · exact hl2 _ _ q
  have hf2' : ∀ k v, valueAt kvs2' k = some v → Flat2 v := by
    rcases hcase with ⟨_, rfl⟩ | ⟨_, rfl⟩
    · exact hf2
    · intro k' v q
      rw [valueAt_stored] at q
      split at q
      · cases q; exact hdf
      · exact hf2 _ _ q
  refine ⟨(fun c q => by rcases hv' with rfl | ⟨c, rfl⟩ <;> (cases q)), ?_⟩
  dsimp only
  -- self._cached_changelog = None
  have hinst : upd s.heap.get? p.x2 o2' p.a = some (instObj 254 p.ad) := by rw [upd_ne (ne_of_cls S.inst hx2 (by rw [dictOf_cls hk2]; simp))]; exact S.inst
  have hdict' := (upd_ne (ld := s.heap.get?) (o := o2') hp.d2).trans hdict
  refine wpAny_execs_cons (plainObj_wpAny_Assign_Attribute (wpAny_Constant_none (ev_loc e z hm1 (sa_own C z hinst hdict' hp.nad rfl rfl rfl rfl rfl (fun _ => rfl) (fun _ => by show 6 ≤ 1000; decide) fun h₅ _ tk₅ z => ?_))))
  refine wpAny_execs_nil (h h₅ tk₅ _ z.led (fun c o hc q => ?_) ?_)
  · simp only [AsAddr.W, List.mem_cons, List.not_mem_nil, or_false, not_or] at hc
    rw [upd_ne hc.1, upd_ne hc.2.2.1]; exact q
  · obtain ⟨os, hos, hS3⟩ := S.seen
    obtain ⟨oa, hoa, hS4⟩ := S.asg
    obtain ⟨ok, kk, hok, hS5⟩ := S.nk
    have ne3 : ∀ {c : Addr} {o : Obj}, s.heap.get? c = some o → o.cls = .type "set" → upd (upd s.heap.get? p.x2 o2') p.ad (dictOf (asEs h1 h2 h3 h4 h5 h6 t1 t2 t3 t4 t5 t6 p.x1 p.x2 p.x3 p.x4 p.x5) nn) c = some o := fun {c o} q hc => by
      rw [upd_ne (ne_of_cls q hdict (by rw [hc]; simp)), upd_ne (ne_of_cls q hx2 (by rw [hc, dictOf_cls hk2]; simp))]; exact q
    exact {
      inst := by rw [upd_ne (ne_of_cls S.inst hdict (by simp))]; exact hinst
      dict := ⟨h1, h2, h3, h4, h5, h6, t1, t2, t3, t4, t5, t6, nn, upd_self⟩
      data := ⟨o1, kvs1, by rw [upd_ne hp.d1.symm, upd_ne hp.d12]; exact hx1, hk1, hf1, hl1⟩
      orig := ⟨o2', kvs2', by rw [upd_ne hp.d2.symm, upd_self], hk2', hf2', hl2'⟩
      seen := ⟨os, ne3 hos (setK_cls hS3.1), hS3.1, hS3.2⟩
      asg := ⟨oa, ne3 hoa (setK_cls hS4.1), hS4.1, hS4.2⟩
      nk := ⟨ok, kk, ne3 hok (setK_cls hS5.1), hS5.1, hS5.2⟩ }
end
end Mine

namespace Mine

theorem without_rng {kvs : List (Int × Value)} {k : Int} (h : ∀ i v, valueAt kvs i = some v → -9 ≤ i ∧ i ≤ 9) : ∀ i v, valueAt (without kvs k) i = some v → -9 ≤ i ∧ i ≤ 9 := fun i v q => by
  rw [valueAt_without] at q
  split at q
  · cases q
  · exact h _ _ q
def mix (W : List Addr) (ld' ld : Ld) : Ld := fun c => if c ∈ W then ld' c else ld c
theorem mix_in {W : List Addr} {ld' ld : Ld} {c : Addr} (h : c ∈ W) : mix W ld' ld c = ld' c := by unfold mix; rw [if_pos h]
theorem mix_out {W : List Addr} {ld' ld : Ld} {c : Addr} (h : c ∉ W) : mix W ld' ld c = ld c := by unfold mix; rw [if_neg h]
theorem Z.calls {b : Heap} {L : Addr} {m : Loc} {ld ld' : Ld} {h h' : Heap} {W : List Addr} (z : Z b L m ld h) (hW : ∀ c ∈ W, New b c) (hL : L ∉ W) (x : Led ld' h') (k : ∀ c o, c ∉ W → h.get? c = some o → ld' c = some o) :
    Z b L m (mix W ld' ld) h' where
  ns := z.ns.at' fun o e => x _ _ (k _ _ hL e)
  led := fun c o e => by
    by_cases q : c ∈ W
    · rw [mix_in q] at e; exact x _ _ e
    · rw [mix_out q] at e; exact x _ _ (k _ _ q (z.led _ _ e))
  fr := by rw [mix_out hL]; exact z.fr
  base := fun c o e => by
    rw [mix_out fun q => by rw [(hW c q).none] at e; cases e]; exact z.base _ _ e
  above := z.above
theorem AsAddr.Ok.W {b : Heap} {p : AsAddr} (hp : p.Ok b) : ∀ c ∈ p.W, New b c := fun c hc => by
  simp only [AsAddr.W, List.mem_cons, List.not_mem_nil, or_false] at hc
  rcases hc with rfl | rfl | rfl | rfl | rfl | rfl
  · exact hp.nad
  · exact hp.n1
  · exact hp.n2
  · exact hp.n3
  · exact hp.n4
  · exact hp.n5
theorem AS.some {prog : Program} {w : World} {ld : Ld} {p : AsAddr} {f : Int → Option Bool} {seen asg : List Int} (S : AS prog w ld p f seen asg) {c : Addr} (hc : c ∈ p.W) : ∃ o, ld c = Option.some o := by
  simp only [AsAddr.W, List.mem_cons, List.not_mem_nil, or_false] at hc
  obtain ⟨h1, h2, h3, h4, h5, h6, t1, t2, t3, t4, t5, t6, nn, hdict⟩ := S.dict
  obtain ⟨o1, kvs1, hx1, _⟩ := S.data
  obtain ⟨o2, kvs2, hx2, _⟩ := S.orig
  obtain ⟨o3, hx3, _⟩ := S.seen
  obtain ⟨o4, hx4, _⟩ := S.asg
  obtain ⟨o5, _, hx5, _⟩ := S.nk
  rcases hc with rfl | rfl | rfl | rfl | rfl | rfl
  · exact ⟨_, hdict⟩
  · exact ⟨_, hx1⟩
  · exact ⟨_, hx2⟩
  · exact ⟨_, hx3⟩
  · exact ⟨_, hx4⟩
  · exact ⟨_, hx5⟩
theorem AS.notL {prog : Program} {w : World} {b : Heap} {L : Addr} {m : Loc} {h : Heap} {ld : Ld} {p : AsAddr} {f : Int → Option Bool} {seen asg : List Int} (S : AS prog w ld p f seen asg) (z : Z b L m ld h) : L ∉ p.W := fun hc => by
  obtain ⟨o, q⟩ := S.some hc; exact z.neL q rfl
theorem AS.a_out {prog : Program} {w : World} {ld : Ld} {p : AsAddr} {f : Int → Option Bool} {seen asg : List Int} (S : AS prog w ld p f seen asg) : p.a ∉ p.W := fun hc => by
  obtain ⟨h1, h2, h3, h4, h5, h6, t1, t2, t3, t4, t5, t6, nn, hdict⟩ := S.dict
  obtain ⟨o1, kvs1, hx1, hk1, _⟩ := S.data
  obtain ⟨o2, kvs2, hx2, hk2, _⟩ := S.orig
  obtain ⟨o3, hx3, hk3, _⟩ := S.seen
  obtain ⟨o4, hx4, hk4, _⟩ := S.asg
  obtain ⟨o5, _, hx5, hk5, _⟩ := S.nk
  simp only [AsAddr.W, List.mem_cons, List.not_mem_nil, or_false] at hc
  rcases hc with q | q | q | q | q | q
  · exact ne_of_cls S.inst hdict (by simp) q
  · exact ne_of_cls S.inst hx1 (by rw [dictOf_cls hk1]; simp) q
  · exact ne_of_cls S.inst hx2 (by rw [dictOf_cls hk2]; simp) q
  · exact ne_of_cls S.inst hx3 (by rw [setK_cls hk3]; simp) q
  · exact ne_of_cls S.inst hx4 (by rw [setK_cls hk4]; simp) q
  · exact ne_of_cls S.inst hx5 (by rw [setK_cls hk5]; simp) q
theorem AS.mixed {prog : Program} {w : World} {ld ld' : Ld} {p : AsAddr} {f f' : Int → Option Bool} {seen asg seen' asg' : List Int} (S : AS prog w ld p f seen asg) (S' : AS prog w ld' p f' seen' asg') :
    AS prog w (mix p.W ld' ld) p f' seen' asg' :=
  S'.congr (by rw [mix_out S.a_out, S.inst, S'.inst]) fun c hc => mix_in hc

/-- one of the six objects turned -/
theorem AS.setSeen {prog : Program} {w : World} {b : Heap} {ld : Ld} {p : AsAddr} {f : Int → Option Bool} {seen asg seen' : List Int} {o' : Obj} (S : AS prog w ld p f seen asg) (hp : p.Ok b) (hS : SetK w o' seen') (hl : ∀ k ∈ seen', 1 ≤ k ∧ k ≤ 9) :
    AS prog w (upd ld p.x3 o') p f seen' asg := by
  obtain ⟨h1, h2, h3, h4, h5, h6, t1, t2, t3, t4, t5, t6, nn, hdict⟩ := S.dict
  obtain ⟨o1, kvs1, hx1, hk1, r1⟩ := S.data
  obtain ⟨o2, kvs2, hx2, hk2, r2⟩ := S.orig
  obtain ⟨o3, hx3, hk3, r3⟩ := S.seen
  obtain ⟨o4, hx4, hk4, r4⟩ := S.asg
  obtain ⟨o5, k5, hx5, hk5, r5⟩ := S.nk
  exact {
    inst := by rw [upd_ne (ne_of_cls S.inst hx3 (by rw [setK_cls hk3]; simp))]; exact S.inst
    dict := ⟨h1, h2, h3, h4, h5, h6, t1, t2, t3, t4, t5, t6, nn, by rw [upd_ne (ne_of_cls hdict hx3 (by rw [setK_cls hk3]; simp))]; exact hdict⟩
    data := ⟨o1, kvs1, by rw [upd_ne (ne_of_cls hx1 hx3 (by rw [setK_cls hk3, dictOf_cls hk1]; simp))]; exact hx1, hk1, r1⟩
    orig := ⟨o2, kvs2, by rw [upd_ne (ne_of_cls hx2 hx3 (by rw [setK_cls hk3, dictOf_cls hk2]; simp))]; exact hx2, hk2, r2⟩
    seen := ⟨o', upd_self, hS, hl⟩
    asg := ⟨o4, by rw [upd_ne hp.d34.symm]; exact hx4, hk4, r4⟩
    nk := ⟨o5, k5, by rw [upd_ne hp.d35.symm]; exact hx5, hk5, r5⟩ }
theorem AS.setAsg {prog : Program} {w : World} {b : Heap} {ld : Ld} {p : AsAddr} {f : Int → Option Bool} {seen asg asg' : List Int} {o' : Obj} (S : AS prog w ld p f seen asg) (hp : p.Ok b) (hS : SetK w o' asg') (hl : ∀ k ∈ asg', 1 ≤ k ∧ k ≤ 9) :
    AS prog w (upd ld p.x4 o') p f seen asg' := by
  obtain ⟨h1, h2, h3, h4, h5, h6, t1, t2, t3, t4, t5, t6, nn, hdict⟩ := S.dict
  obtain ⟨o1, kvs1, hx1, hk1, r1⟩ := S.data
  obtain ⟨o2, kvs2, hx2, hk2, r2⟩ := S.orig
  obtain ⟨o3, hx3, hk3, r3⟩ := S.seen
  obtain ⟨o4, hx4, hk4, r4⟩ := S.asg
  obtain ⟨o5, k5, hx5, hk5, r5⟩ := S.nk
  exact {
    inst := by rw [upd_ne (ne_of_cls S.inst hx4 (by rw [setK_cls hk4]; simp))]; exact S.inst
    dict := ⟨h1, h2, h3, h4, h5, h6, t1, t2, t3, t4, t5, t6, nn, by rw [upd_ne (ne_of_cls hdict hx4 (by rw [setK_cls hk4]; simp))]; exact hdict⟩
    data := ⟨o1, kvs1, by rw [upd_ne (ne_of_cls hx1 hx4 (by rw [setK_cls hk4, dictOf_cls hk1]; simp))]; exact hx1, hk1, r1⟩
    orig := ⟨o2, kvs2, by rw [upd_ne (ne_of_cls hx2 hx4 (by rw [setK_cls hk4, dictOf_cls hk2]; simp))]; exact hx2, hk2, r2⟩
    seen := ⟨o3, by rw [upd_ne hp.d34]; exact hx3, hk3, r3⟩
    asg := ⟨o', upd_self, hS, hl⟩
    nk := ⟨o5, k5, by rw [upd_ne hp.d45.symm]; exact hx5, hk5, r5⟩ }
theorem AS.setNk {prog : Program} {w : World} {b : Heap} {ld : Ld} {p : AsAddr} {f : Int → Option Bool} {seen asg nk' : List Int} {o' : Obj} (S : AS prog w ld p f seen asg) (hp : p.Ok b) (hS : SetK w o' nk') (hl : ∀ k ∈ nk', 1 ≤ k ∧ k ≤ 9) :
    AS prog w (upd ld p.x5 o') p f seen asg := by
  obtain ⟨h1, h2, h3, h4, h5, h6, t1, t2, t3, t4, t5, t6, nn, hdict⟩ := S.dict
  obtain ⟨o1, kvs1, hx1, hk1, r1⟩ := S.data
  obtain ⟨o2, kvs2, hx2, hk2, r2⟩ := S.orig
  obtain ⟨o3, hx3, hk3, r3⟩ := S.seen
  obtain ⟨o4, hx4, hk4, r4⟩ := S.asg
  obtain ⟨o5, k5, hx5, hk5, r5⟩ := S.nk
  exact {
    inst := by rw [upd_ne (ne_of_cls S.inst hx5 (by rw [setK_cls hk5]; simp))]; exact S.inst
    dict := ⟨h1, h2, h3, h4, h5, h6, t1, t2, t3, t4, t5, t6, nn, by rw [upd_ne (ne_of_cls hdict hx5 (by rw [setK_cls hk5]; simp))]; exact hdict⟩
    data := ⟨o1, kvs1, by rw [upd_ne (ne_of_cls hx1 hx5 (by rw [setK_cls hk5, dictOf_cls hk1]; simp))]; exact hx1, hk1, r1⟩
    orig := ⟨o2, kvs2, by rw [upd_ne (ne_of_cls hx2 hx5 (by rw [setK_cls hk5, dictOf_cls hk2]; simp))]; exact hx2, hk2, r2⟩
    seen := ⟨o3, by rw [upd_ne hp.d35]; exact hx3, hk3, r3⟩
    asg := ⟨o4, by rw [upd_ne hp.d45]; exact hx4, hk4, r4⟩
    nk := ⟨o', nk', upd_self, hS, hl⟩ }
theorem AS.setData {prog : Program} {w : World} {b : Heap} {ld : Ld} {p : AsAddr} {f f' : Int → Option Bool} {seen asg : List Int} {o' : Obj} {kvs : List (Int × Value)} (S : AS prog w ld p f seen asg) (hp : p.Ok b) (hk : o'.IsDictOf (intKind prog w) kvs) (hf : ∀ k, valueAt kvs k = (f' k).map .bool) (hl : ∀ k v, valueAt kvs k = Option.some v → -9 ≤ k ∧ k ≤ 9) :
    AS prog w (upd ld p.x1 o') p f' seen asg := by
  obtain ⟨h1, h2, h3, h4, h5, h6, t1, t2, t3, t4, t5, t6, nn, hdict⟩ := S.dict
  obtain ⟨o1, kvs1, hx1, hk1, r1⟩ := S.data
  obtain ⟨o2, kvs2, hx2, hk2, r2⟩ := S.orig
  obtain ⟨o3, hx3, hk3, r3⟩ := S.seen
  obtain ⟨o4, hx4, hk4, r4⟩ := S.asg
  obtain ⟨o5, k5, hx5, hk5, r5⟩ := S.nk
  exact {
    inst := by rw [upd_ne (ne_of_cls S.inst hx1 (by rw [dictOf_cls hk1]; simp))]; exact S.inst
    dict := ⟨h1, h2, h3, h4, h5, h6, t1, t2, t3, t4, t5, t6, nn, by rw [upd_ne hp.d1]; exact hdict⟩
    data := ⟨o', kvs, upd_self, hk, hf, hl⟩
    orig := ⟨o2, kvs2, by rw [upd_ne hp.d12.symm]; exact hx2, hk2, r2⟩
    seen := ⟨o3, by rw [upd_ne (ne_of_cls hx3 hx1 (by rw [setK_cls hk3, dictOf_cls hk1]; simp))]; exact hx3, hk3, r3⟩
    asg := ⟨o4, by rw [upd_ne (ne_of_cls hx4 hx1 (by rw [setK_cls hk4, dictOf_cls hk1]; simp))]; exact hx4, hk4, r4⟩
    nk := ⟨o5, k5, by rw [upd_ne (ne_of_cls hx5 hx1 (by rw [setK_cls hk5, dictOf_cls hk1]; simp))]; exact hx5, hk5, r5⟩ }
/-- outside W all as in h₀ -/
def RestW (h₀ : Heap) (W : List Addr) (ld : Ld) : Prop := ∀ c o, c ∉ W → h₀.get? c = some o → ld c = some o
theorem RestW.self {h₀ : Heap} {W : List Addr} : RestW h₀ W h₀.get? := fun _ _ _ e => e
theorem RestW.upd {h₀ : Heap} {W : List Addr} {ld : Ld} (r : RestW h₀ W ld) {c : Addr} {o : Obj} (hc : c ∈ W) : RestW h₀ W (Mine.upd ld c o) := fun x ox q e => by
  rw [upd_ne (fun e' => q (by rw [e']; exact hc))]; exact r x ox q e
theorem RestW.mix {h₀ : Heap} {W : List Addr} {ld ld' : Ld} (r : RestW h₀ W ld) : RestW h₀ W (Mine.mix W ld' ld) := fun x ox q e => by
  rw [mix_out q]; exact r x ox q e
theorem RestW.tmp {h₀ : Heap} {W : List Addr} {ld : Ld} (r : RestW h₀ W ld) {c : Addr} {o : Obj} (hc : ld c = none) : RestW h₀ W (Mine.upd ld c o) := fun x ox q e => by
  have := r x ox q e
  rw [upd_ne (fun q => by rw [q, hc] at this; cases this)]; exact this
theorem in3 (p : AsAddr) : p.x3 ∈ p.W := by simp [AsAddr.W]
theorem in4 (p : AsAddr) : p.x4 ∈ p.W := by simp [AsAddr.W]
theorem in5 (p : AsAddr) : p.x5 ∈ p.W := by simp [AsAddr.W]
theorem in1 (p : AsAddr) : p.x1 ∈ p.W := by simp [AsAddr.W]

section
variable {w : World} {A : Around} {E : Value → Shared → Prop} {s : Shared} {mg mb : Str → Option Value} {b : Heap}

set_option maxHeartbeats 2000000 in
theorem delitem_spec {p : AsAddr} {f : Int → Option Bool} {seen asg : List Int} {k : Int} {t : Tok} {c c' : Bool} {Q : Value → Shared → Prop}
    (C : Cx (KK w) mg mb b) (hB : Bs b s.heap) (r : Room A 2) (hp : p.Ok b) (S : AS PP w s.heap.get? p f seen asg) (hk : 1 ≤ k ∧ k ≤ 9) (hfk : f k = some c) (hfk' : f (-k) = some c')
    (h : ∀ h' tk ld', Led ld' h' → RestW s.heap p.W ld' → AS PP w ld' p (fun i => if i = -k then none else if i = k then none else f i) (seen.erase k) (asg.erase k) → Q .none { s with heap := h', toks := tk }) :
    wpAny (model PP w) A (call (.ref 125) [.ref p.a, .int k t]) Q E s := by
  refine enter (n := 1) C hB r rfl rfl rfl (BindsTo.of_eq rfl) rfl rfl rfl rfl rfl rfl rfl rfl ?_
  intro A' env L h₁ tk r' e z
  dsimp only at e
  have habs : (if k < 0 then -k else k) = k := if_neg (by omega)
  obtain ⟨h1, h2, h3, h4, h5, h6, t1, t2, t3, t4, t5, t6, nn, hdict⟩ := S.dict
  -- self._seen.discard(abs(key))
  obtain ⟨o3, hx3, hk3, hl3⟩ := S.seen
  refine wpAny_execs_cons (ex_flat e (MethodCall_ (Attribute_Name_ (ev_loc e z rfl (ga_own C z S.inst hdict rfl rfl rfl rfl rfl (km_discard z hx3 hk3 ?_))))))
  refine callWith_method1 (args_cons (Call_ (ev_bi e C z rfl PyProof.Rows.boot_abs (PyProof.Rows.callWith_builtin1 (args_cons (ev_loc e z rfl (args_nil (call_abs_int fun u tk₂ => args_nil ?_))))))))
  rw [habs]
  refine k_discard z hx3 hp.n3 hk3 fun h₂ o3' tk₃ z hS3 => ⟨fun _ q => (nomatch q), ?_⟩
  have S := S.setSeen hp hS3 fun i hi => hl3 i (List.mem_of_mem_erase hi)
  have R : RestW s.heap p.W (upd s.heap.get? p.x3 o3') := RestW.self.upd (in3 p)
  generalize upd s.heap.get? p.x3 o3' = ld at z S R
  clear hx3 hk3 hdict
  dsimp only
  -- if key not in self._data: return
  obtain ⟨h1, h2, h3, h4, h5, h6, t1, t2, t3, t4, t5, t6, nn, hdict⟩ := S.dict
  obtain ⟨o1, kvs1, hx1, hk1, hf1, hl1⟩ := S.data
  refine wpAny_execs_cons (wpAny_If (wpAny_isTrue_Compare1 (ev_loc e z rfl (Attribute_Name_ (ev_loc e z rfl (ga_own C z S.inst hdict rfl rfl rfl rfl rfl (d_notin C z hx1 hp.n1 hk1 (wpAny_truthy_bool ?_))))))))
  rw [hf1, hfk, if_neg (by simp)]
  refine wpAny_execs_nil ?_
  -- self._update_diff(key, None)
  refine wpAny_execs_cons (ex_flat e (MethodCall_ (ev_loc e z rfl (gm_inst C z S.inst hdict rfl rfl rfl rfl ?_))))
  refine cw_K C rfl (args_cons (ev_loc e z rfl (args_cons (wpAny_Constant_none (args_nil ⟨z.stays, ?_⟩)))))
  have Sh : AS PP w (Shared.heap { s with heap := h₂, toks := tk₃ }).get? p f (seen.erase k) asg := S.congr ((z.led _ _ S.inst).trans S.inst.symm) fun c hc => by obtain ⟨o, q⟩ := S.some hc; exact (z.led _ _ q).trans q.symm
  refine update_diff_spec C z.bs r' hp Sh (by omega) (.inl rfl) fun h₃ tk₄ ld₃ led₃ R₃ S₃ => ⟨fun _ q => (nomatch q), ?_⟩
  have z := z.calls hp.W (S.notL z) led₃ R₃
  have S := S.mixed S₃
  have R := R.mix (ld' := ld₃)
  generalize mix p.W ld₃ ld = ld at z S R
  clear hx1 hk1 hf1 hl1 hdict
  dsimp only
  -- del self._data[key]
  obtain ⟨h1, h2, h3, h4, h5, h6, t1, t2, t3, t4, t5, t6, nn, hdict⟩ := S.dict
  obtain ⟨o1, kvs1, hx1, hk1, hf1, hl1⟩ := S.data
  refine wpAny_execs_cons (wpAny_Delete (wpAny_deleteEach_cons (delete_Subscript (Attribute_Name_ (ev_loc e z rfl (ga_own C z S.inst hdict rfl rfl rfl rfl rfl (ev_loc e z rfl (d_del z hx1 hp.n1 hk1 (by rw [hf1, hfk]; rfl) (fun h₄ o1' z hk1' => wpAny_deleteEach_nil ?_) (Nat.le_trans (dict_le hk1 hl1) (by decide))))))))))
  have S := S.setData (f' := fun i => if i = k then none else f i) hp hk1' (fun i => by rw [valueAt_without, hf1]; by_cases q : i = k <;> simp [q]) (without_rng hl1)
  have R := R.upd (in1 p) (o := o1')
  generalize upd ld p.x1 o1' = ld at z S R
  clear hx1 hk1 hf1 hl1 hdict hk1'
  -- del self._data[-key]
  obtain ⟨h1, h2, h3, h4, h5, h6, t1, t2, t3, t4, t5, t6, nn, hdict⟩ := S.dict
  obtain ⟨o1, kvs1, hx1, hk1, hf1, hl1⟩ := S.data
  have hne : ¬ (-k = k) := by omega
  refine wpAny_execs_cons (wpAny_Delete (wpAny_deleteEach_cons (delete_Subscript (Attribute_Name_ (ev_loc e z rfl (ga_own C z S.inst hdict rfl rfl rfl rfl rfl (wpAny_UnaryOp (ev_loc e z rfl (neg_int (d_del z hx1 hp.n1 hk1 (by rw [hf1, if_neg hne, hfk']; rfl) (fun h₄ o1' z hk1' => wpAny_deleteEach_nil ?_) (Nat.le_trans (dict_le hk1 hl1) (by decide))))))))))))
  have S := S.setData (f' := fun i => if i = -k then none else if i = k then none else f i) hp hk1' (fun i => by rw [valueAt_without, hf1]; by_cases q : i = -k <;> simp [q]) (without_rng hl1)
  have R := R.upd (in1 p) (o := o1')
  generalize upd ld p.x1 o1' = ld at z S R
  clear hx1 hk1 hf1 hl1 hdict hk1'
  -- self._assigned_ids.discard(abs(key))
  obtain ⟨h1, h2, h3, h4, h5, h6, t1, t2, t3, t4, t5, t6, nn, hdict⟩ := S.dict
  obtain ⟨o4, hx4, hk4, hl4⟩ := S.asg
  refine wpAny_execs_cons (ex_flat e (MethodCall_ (Attribute_Name_ (ev_loc e z rfl (ga_own C z S.inst hdict rfl rfl rfl rfl rfl (km_discard z hx4 hk4 ?_))))))
  refine callWith_method1 (args_cons (Call_ (ev_bi e C z rfl PyProof.Rows.boot_abs (PyProof.Rows.callWith_builtin1 (args_cons (ev_loc e z rfl (args_nil (call_abs_int fun u tk₂ => args_nil ?_))))))))
  rw [habs]
  refine k_discard z hx4 hp.n4 hk4 fun h₅ o4' tk₅ z hS4 => ⟨fun _ q => (nomatch q), ?_⟩
  exact wpAny_execs_nil (h h₅ tk₅ _ z.led (R.upd (in4 p)) (S.setAsg hp hS4 fun i hi => hl4 i (List.mem_of_mem_erase hi)))
end
end Mine

namespace Mine

theorem AS.here {w : World} {b : Heap} {L : Addr} {m : Loc} {h : Heap} {ld : Ld} {p : AsAddr} {f : Int → Option Bool} {seen asg : List Int} (S : AS PP w ld p f seen asg) (z : Z b L m ld h) : AS PP w h.get? p f seen asg :=
  S.congr ((z.led _ _ S.inst).trans S.inst.symm) fun c hc => by obtain ⟨o, q⟩ := S.some hc; exact (z.led _ _ q).trans q.symm

theorem perm_rng {l l' : List Int} {k : Int} (hl : ∀ i ∈ l, 1 ≤ i ∧ i ≤ 9) (hk : 1 ≤ k ∧ k ≤ 9) (hp : l'.Perm (if k ∈ l then l else k :: l)) : ∀ i ∈ l', 1 ≤ i ∧ i ≤ 9 := fun i hi => by
  have := hp.mem_iff.mp hi
  split at this
  · exact hl i this
  · rcases List.mem_cons.mp this with rfl | q
    · exact hk
    · exact hl i q
section
variable {w : World} {A : Around} {E : Value → Shared → Prop} {s : Shared} {mg mb : Str → Option Value} {b : Heap}

set_option maxHeartbeats 2000000 in
theorem setitem_spec {p : AsAddr} {f : Int → Option Bool} {seen asg : List Int} {k ak : Int} {t : Tok} {c : Bool} {Q : Value → Shared → Prop}
    (C : Cx (KK w) mg mb b) (hB : Bs b s.heap) (r : Room A 2) (hp : p.Ok b) (S : AS PP w s.heap.get? p f seen asg) (hak : (if k < 0 then -k else k) = ak) (hk : 1 ≤ ak ∧ ak ≤ 9)
    (h : ∀ h' tk ld' seen' asg', Led ld' h' → RestW s.heap p.W ld' → seen'.Perm (if ak ∈ seen then seen else ak :: seen) → asg'.Perm (if ak ∈ asg then asg else ak :: asg) →
      AS PP w ld' p (fun i => if i = -k then some (!c) else if i = k then some c else f i) seen' asg' → Q .none { s with heap := h', toks := tk }) :
    wpAny (model PP w) A (call (.ref 118) [.ref p.a, .int k t, .bool c]) Q E s := by
  refine enter (n := 1) C hB r rfl rfl rfl (BindsTo.of_eq rfl) rfl rfl rfl rfl rfl rfl rfl rfl ?_
  intro A' env L h₁ tk r' e z
  dsimp only at e
  -- abskey = abs(key)
  refine wpAny_execs_cons (wpAny_Assign_Name (Call_ (ev_bi e C z rfl PyProof.Rows.boot_abs (PyProof.Rows.callWith_builtin1 (args_cons (ev_loc e z rfl (args_nil (call_abs_int fun u tk₂ => ?_))))))))
  rw [hak]
  refine st_loc e z fun h₂ z => ?_
  -- if abskey not in self._seen: self.new_keys.add(abskey)
  obtain ⟨h1, h2, h3, h4, h5, h6, t1, t2, t3, t4, t5, t6, nn, hdict⟩ := S.dict
  obtain ⟨o3, hx3, hk3, hl3⟩ := S.seen
  refine wpAny_execs_cons (wpAny_mono (Q := fun fl s' => fl = Flow.next ∧ ∃ h tk m ld, s' = { s with heap := h, toks := tk } ∧ Z b L m ld h ∧ m "self" = some (.ref p.a) ∧ m "key" = some (.int k t) ∧ m "value" = some (.bool c) ∧ m "abskey" = some (.int ak u) ∧
      RestW s.heap p.W ld ∧ AS PP w ld p f seen asg) ?_ ?_ fun _ _ x => x)
  · refine wpAny_If (wpAny_isTrue_Compare1 (ev_loc e z rfl (Attribute_Name_ (ev_loc e z rfl (ga_own C z S.inst hdict rfl rfl rfl rfl rfl (k_notin z hx3 hk3 (wpAny_truthy_bool ?_)))))))
    split
    · obtain ⟨o5, k5, hx5, hk5, hl5⟩ := S.nk
      refine wpAny_execs_cons (ex_flat e (MethodCall_ (Attribute_Name_ (ev_loc e z rfl (ga_own C z S.inst hdict rfl rfl rfl rfl rfl (km_add z hx5 hk5 ?_))))))
      refine callWith_method1 (args_cons (ev_loc e z rfl (args_nil ?_)))
      refine k_add z hx5 hp.n5 hk5 hk (Nat.lt_of_le_of_lt (set_le hk5 hl5) (by decide)) fun h₃ o5' k5' tk₃ z hS5 hP5 => ⟨fun _ q => (nomatch q), ?_⟩
      refine wpAny_execs_nil ⟨rfl, _, _, _, _, rfl, z, rfl, rfl, rfl, rfl, RestW.self.upd (in5 p), S.setNk hp hS5 fun i hi => ?_⟩
      exact perm_rng hl5 hk hP5 i hi
    · exact wpAny_execs_nil ⟨rfl, _, _, _, _, rfl, z, rfl, rfl, rfl, rfl, RestW.self, S⟩
  rintro fl s' ⟨rfl, h₃, tk₃, m, ld, rfl, z, hm1, hm2, hm3, hm4, R, S⟩
  clear hdict hx3 hk3 hl3
  dsimp only
  -- if value is None .. else ..
  refine wpAny_execs_cons (wpAny_mono (Q := fun fl s' => fl = Flow.next ∧ ∃ h tk ld asg', s' = { s with heap := h, toks := tk } ∧ Z b L m ld h ∧ RestW s.heap p.W ld ∧ asg'.Perm (if ak ∈ asg then asg else ak :: asg) ∧
      AS PP w ld p (fun i => if i = -k then some (!c) else if i = k then some c else f i) seen asg') ?_ ?_ fun _ _ x => x)
  · refine wpAny_If (wpAny_isTrue_Compare1 (ev_loc e z hm3 (wpAny_Constant_none (wpAny_is_plain rfl (wpAny_truthy_bool ?_)))))
    rw [if_neg (by simp)]
    -- self._update_diff(key, value)
    obtain ⟨h1, h2, h3, h4, h5, h6, t1, t2, t3, t4, t5, t6, nn, hdict⟩ := S.dict
    refine wpAny_execs_cons (ex_flat e (MethodCall_ (ev_loc e z hm1 (gm_inst C z S.inst hdict rfl rfl rfl rfl ?_))))
    refine cw_K C rfl (args_cons (ev_loc e z hm2 (args_cons (ev_loc e z hm3 (args_nil ⟨z.stays, ?_⟩)))))
    refine update_diff_spec C z.bs r' hp (S.here z) (by split at hak <;> omega) (.inr ⟨c, rfl⟩) fun h₄ tk₄ ld₃ led₃ R₃ S₃ => ⟨fun _ q => (nomatch q), ?_⟩
    have z := z.calls hp.W (S.notL z) led₃ R₃
    have S := S.mixed S₃
    have R := R.mix (ld' := ld₃)
    generalize mix p.W ld₃ ld = ld at z S R
    clear hdict
    dsimp only
    -- self._data[key] = value
    obtain ⟨h1, h2, h3, h4, h5, h6, t1, t2, t3, t4, t5, t6, nn, hdict⟩ := S.dict
    obtain ⟨o1, kvs1, hx1, hk1, hf1, hl1⟩ := (AS.data S)
    refine wpAny_execs_cons (wpAny_Assign_Subscript (ev_loc e z hm3 (Attribute_Name_ (ev_loc e z hm1 (ga_own C z S.inst hdict rfl rfl rfl rfl rfl (ev_loc e z hm2 (d_set z hx1 hp.n1 hk1 (fun h₅ o1' z hk1' => ?_) (Nat.le_trans (dict_le hk1 hl1) (by decide)))))))))
    have S := S.setData (f' := fun i => if i = k then some c else f i) hp hk1' (fun i => by rw [valueAt_stored, hf1]; by_cases q : i = k <;> simp [q])
      (fun i v q => by
        rw [valueAt_stored] at q
        split at q
        · rename_i e; rw [e]; split at hak <;> omega
        · exact hl1 _ _ q)
    have R := R.upd (in1 p) (o := o1')
    generalize upd ld p.x1 o1' = ld at z S R
    clear hx1 hk1 hf1 hl1 hdict hk1'
    -- self._data[-key] = not value
    obtain ⟨h1, h2, h3, h4, h5, h6, t1, t2, t3, t4, t5, t6, nn, hdict⟩ := S.dict
    obtain ⟨o1, kvs1, hx1, hk1, hf1, hl1⟩ := (AS.data S)
    refine wpAny_execs_cons (wpAny_Assign_Subscript (wpAny_UnaryOp (ev_loc e z hm3 (not_of (wpAny_truthy_bool (Attribute_Name_ (ev_loc e z hm1 (ga_own C z S.inst hdict rfl rfl rfl rfl rfl (wpAny_UnaryOp (ev_loc e z hm2 (neg_int (d_set z hx1 hp.n1 hk1 (fun h₅ o1' z hk1' => ?_) (Nat.le_trans (dict_le hk1 hl1) (by decide))))))))))))))
    have S := S.setData (f' := fun i => if i = -k then some (!c) else if i = k then some c else f i) hp hk1' (fun i => by rw [valueAt_stored, hf1]; by_cases q : i = -k <;> simp [q])
      (fun i v q => by
        rw [valueAt_stored] at q
        split at q
        · rename_i e; rw [e]; split at hak <;> omega
        · exact hl1 _ _ q)
    have R := R.upd (in1 p) (o := o1')
    generalize upd ld p.x1 o1' = ld at z S R
    clear hx1 hk1 hf1 hl1 hdict hk1'
    -- self._assigned_ids.add(abs(key))
    obtain ⟨h1, h2, h3, h4, h5, h6, t1, t2, t3, t4, t5, t6, nn, hdict⟩ := S.dict
    obtain ⟨o4, hx4, hk4, hl4⟩ := S.asg
    refine wpAny_execs_cons (ex_flat e (MethodCall_ (Attribute_Name_ (ev_loc e z hm1 (ga_own C z S.inst hdict rfl rfl rfl rfl rfl (km_add z hx4 hk4 ?_))))))
    refine callWith_method1 (args_cons (Call_ (ev_bi e C z rfl PyProof.Rows.boot_abs (PyProof.Rows.callWith_builtin1 (args_cons (ev_loc e z hm2 (args_nil (call_abs_int fun u tk₂ => args_nil ?_))))))))
    rw [hak]
    refine k_add z hx4 hp.n4 hk4 hk (Nat.lt_of_le_of_lt (set_le hk4 hl4) (by decide)) fun h₅ o4' k4' tk₅ z hS4 hP4 => ⟨fun _ q => (nomatch q), ?_⟩
    exact wpAny_execs_nil ⟨rfl, h₅, tk₅, _, k4', rfl, z, R.upd (in4 p), hP4, S.setAsg hp hS4 (perm_rng hl4 hk hP4)⟩
  rintro fl s' ⟨rfl, h₄, tk₄, ld, asg', rfl, z, R, hPa, S⟩
  dsimp only
  -- self._seen.add(abskey)
  obtain ⟨h1, h2, h3, h4, h5, h6, t1, t2, t3, t4, t5, t6, nn, hdict⟩ := S.dict
  obtain ⟨o3, hx3, hk3, hl3⟩ := S.seen
  refine wpAny_execs_cons (ex_flat e (MethodCall_ (Attribute_Name_ (ev_loc e z hm1 (ga_own C z S.inst hdict rfl rfl rfl rfl rfl (km_add z hx3 hk3 ?_))))))
  refine callWith_method1 (args_cons (ev_loc e z hm4 (args_nil ?_)))
  refine k_add z hx3 hp.n3 hk3 hk (Nat.lt_of_le_of_lt (set_le hk3 hl3) (by decide)) fun h₅ o3' k3' tk₅ z hS3 hP3 => ⟨fun _ q => (nomatch q), ?_⟩
  refine wpAny_execs_nil (h h₅ tk₅ _ k3' asg' z.led (R.upd (in3 p)) hP3 hPa (S.setSeen hp hS3 (perm_rng hl3 hk hP3)))

set_option maxHeartbeats 2000000 in
theorem setnone_spec {p : AsAddr} {f : Int → Option Bool} {seen asg : List Int} {k : Int} {t : Tok} {c c' : Bool} {Q : Value → Shared → Prop}
    (C : Cx (KK w) mg mb b) (hB : Bs b s.heap) (r : Room A 3) (hp : p.Ok b) (S : AS PP w s.heap.get? p f seen asg) (hk : 1 ≤ k ∧ k ≤ 9) (hfk : f k = some c) (hfk' : f (-k) = some c')
    (h : ∀ h' tk ld' seen', Led ld' h' → RestW s.heap p.W ld' → seen'.Perm (k :: seen.erase k) →
      AS PP w ld' p (fun i => if i = -k then none else if i = k then none else f i) seen' (asg.erase k) → Q .none { s with heap := h', toks := tk }) :
    wpAny (model PP w) A (call (.ref 118) [.ref p.a, .int k t, .none]) Q E s := by
  refine enter (n := 2) C hB r rfl rfl rfl (BindsTo.of_eq rfl) rfl rfl rfl rfl rfl rfl rfl rfl ?_
  intro A' env L h₁ tk r' e z
  dsimp only at e
  have hak : (if k < 0 then -k else k) = k := if_neg (by omega)
  -- abskey = abs(key)
  refine wpAny_execs_cons (wpAny_Assign_Name (Call_ (ev_bi e C z rfl PyProof.Rows.boot_abs (PyProof.Rows.callWith_builtin1 (args_cons (ev_loc e z rfl (args_nil (call_abs_int fun u tk₂ => ?_))))))))
  rw [hak]
  refine st_loc e z fun h₂ z => ?_
  -- if abskey not in self._seen: self.new_keys.add(abskey)
  obtain ⟨h1, h2, h3, h4, h5, h6, t1, t2, t3, t4, t5, t6, nn, hdict⟩ := S.dict
  obtain ⟨o3, hx3, hk3, hl3⟩ := S.seen
  have hnd : seen.Nodup := by obtain ⟨_, _, _, _, _, _, _, q, _⟩ := hk3; exact q
  refine wpAny_execs_cons (wpAny_mono (Q := fun fl s' => fl = Flow.next ∧ ∃ h tk m ld, s' = { s with heap := h, toks := tk } ∧ Z b L m ld h ∧ m "self" = some (.ref p.a) ∧ m "key" = some (.int k t) ∧ m "value" = some .none ∧ m "abskey" = some (.int k u) ∧
      RestW s.heap p.W ld ∧ AS PP w ld p f seen asg) ?_ ?_ fun _ _ x => x)
  · refine wpAny_If (wpAny_isTrue_Compare1 (ev_loc e z rfl (Attribute_Name_ (ev_loc e z rfl (ga_own C z S.inst hdict rfl rfl rfl rfl rfl (k_notin z hx3 hk3 (wpAny_truthy_bool ?_)))))))
    split
    · obtain ⟨o5, k5, hx5, hk5, hl5⟩ := S.nk
      refine wpAny_execs_cons (ex_flat e (MethodCall_ (Attribute_Name_ (ev_loc e z rfl (ga_own C z S.inst hdict rfl rfl rfl rfl rfl (km_add z hx5 hk5 ?_))))))
      refine callWith_method1 (args_cons (ev_loc e z rfl (args_nil ?_)))
      refine k_add z hx5 hp.n5 hk5 hk (Nat.lt_of_le_of_lt (set_le hk5 hl5) (by decide)) fun h₃ o5' k5' tk₃ z hS5 hP5 => ⟨fun _ q => (nomatch q), ?_⟩
      exact wpAny_execs_nil ⟨rfl, _, _, _, _, rfl, z, rfl, rfl, rfl, rfl, RestW.self.upd (in5 p), S.setNk hp hS5 (perm_rng hl5 hk hP5)⟩
    · exact wpAny_execs_nil ⟨rfl, _, _, _, _, rfl, z, rfl, rfl, rfl, rfl, RestW.self, S⟩
  rintro fl s' ⟨rfl, h₃, tk₃, m, ld, rfl, z, hm1, hm2, hm3, hm4, R, S⟩
  clear hdict hx3 hk3 hl3
  dsimp only
  -- if value is None: del self[key]
  obtain ⟨h1, h2, h3, h4, h5, h6, t1, t2, t3, t4, t5, t6, nn, hdict⟩ := S.dict
  refine wpAny_execs_cons (wpAny_If (wpAny_isTrue_Compare1 (ev_loc e z hm3 (wpAny_Constant_none (wpAny_is_plain rfl (wpAny_truthy_bool ?_))))))
  rw [if_pos (by decide)]
  refine wpAny_execs_cons (wpAny_Delete (wpAny_deleteEach_cons (delete_Subscript (ev_loc e z hm1 (ev_loc e z hm2 (del_inst C z S.inst hdict rfl rfl rfl ?_))))))
  refine delitem_spec C z.bs r' hp (S.here z) hk hfk hfk' fun h₄ tk₄ ld₃ led₃ R₃ S₃ => wpAny_deleteEach_nil (wpAny_execs_nil ?_)
  have z := z.calls hp.W (S.notL z) led₃ R₃
  have S := S.mixed S₃
  have R := R.mix (ld' := ld₃)
  generalize mix p.W ld₃ ld = ld at z S R
  clear hdict
  dsimp only
  -- self._seen.add(abskey)
  obtain ⟨h1, h2, h3, h4, h5, h6, t1, t2, t3, t4, t5, t6, nn, hdict⟩ := S.dict
  obtain ⟨o3, hx3, hk3, hl3⟩ := S.seen
  refine wpAny_execs_cons (ex_flat e (MethodCall_ (Attribute_Name_ (ev_loc e z hm1 (ga_own C z S.inst hdict rfl rfl rfl rfl rfl (km_add z hx3 hk3 ?_))))))
  refine callWith_method1 (args_cons (ev_loc e z hm4 (args_nil ?_)))
  refine k_add z hx3 hp.n3 hk3 hk (Nat.lt_of_le_of_lt (set_le hk3 hl3) (by decide)) fun h₅ o3' k3' tk₅ z hS3 hP3 => ⟨fun _ q => (nomatch q), ?_⟩
  refine wpAny_execs_nil (h h₅ tk₅ _ k3' z.led (R.upd (in3 p)) ?_ (S.setSeen hp hS3 (perm_rng hl3 hk hP3)))
  rwa [if_neg (fun q => (hnd.mem_erase_iff.mp q).1 rfl)] at hP3
end
end Mine

namespace Mine

section
variable {prog : Program} {w : World} {A : Around} {E : Value → Shared → Prop} {s : Shared} {K : Frag} {mg mb : Str → Option Value} {b : Heap} {L : Addr} {m : Str → Option Value} {ld : Ld} {env : Env} {sc : Scope}

theorem enterC {n : Nat} {f : Addr} {oc : Value} {od : Option Addr} {osl : Array (Option Value)} {fd : FuncData} {body : List Stmt} {pos : List Value} {kw : List (Str × Value)} {binds : List (Str × Value)} {R : Result → Shared → Prop}
    (C : Cx K mg mb b) (hB : Bs b s.heap) (r : Room A (n + 1)) (ho : K.lookup f = some ⟨oc, od, .func fd, osl⟩) (hcd : codeIn K fd.code fd.qualname = true)
    (hbody : fd.body = .stmts body) (hbind : BindsTo s fd ⟨pos, kw⟩ binds)
    (hcell : (fd.scope.names.all fun x => decide (x.2 ≠ .cell)) = true) (hloc : (binds.all fun x => decide (fd.scope.names.lookup x.1 = some .local)) = true)
    (hg : fd.globals = mainGlobals) (hbu : fd.builtins = builtinsNs) (hcl : fd.closure = []) (hco : fd.scope.isCoroutine = false) (hgen : fd.scope.isGenerator = false) (hk : fd.scope.kind = .function)
    (h : ∀ A' env L h₁ tk, Room A' n → EnvIs env fd.scope L → Z b L (fun x => binds.reverse.lookup x) s.heap.get? h₁ →
      wpAny (model prog w) A' (execs body env) (fun fl s' => R (.ok (.ret (match fl with | .ret v => v | _ => .none))) s') (fun _ _ => False) { s with heap := h₁, toks := tk }) :
    codeAny (model prog w) A (.call (.ref f) ⟨pos, kw⟩) R s := by
  have hX := C.X.keeps hB.stays
  refine codeAny_call_def (fd := fd) r.room (hX _ _ ho) rfl (C.nolimit.keeps hB.stays) (codeRec_of hX hcd) hbody hbind (fun x hx => of_decide_eq_true (List.all_eq_true.mp hcell x hx)) (fun x hx => of_decide_eq_true (List.all_eq_true.mp hloc x hx)) ?_ hco hgen hk
  intro h₁ hns hk₁
  refine wpAny_mono (h _ (callEnv fd s.heap.objs.size f) s.heap.objs.size h₁ _ (r.deeper _) ⟨rfl, rfl, hg, hbu, hk⟩ ⟨hns, hk₁, ?_, hB.stays, hB.size⟩) (fun fl s' q => ?_) fun _ _ x => x.elim
  · cases e : s.heap.get? s.heap.objs.size with
    | none => rfl
    | some o => exact absurd (Heap.lt_size e) (Nat.lt_irrefl _)
  · cases fl <;> exact q

/-- an object is made: its dict at d, itself at d + 1 -/
theorem make_inst {n : Nat} {Cl fI : Addr} {rest : List Value} {Q : Value → Shared → Prop} (C : Cx K mg mb b) (hB : Bs b s.heap) (r : Room A (n + 1)) (hm : makesIn K Cl = true) (hi : findIn K (.ref Cl) "__init__" = some (some (.ref fI))) (hf : isFn K (.ref fI) = true)
    (h : ∀ A' x dx h', Room A' n → s.heap.get? x = none → s.heap.get? dx = none → x ≠ dx → New b x → New b dx → Bs b h' → Led (upd (upd s.heap.get? dx (dictOf [] 0)) x (instObj Cl dx)) h' →
      codeAny (model prog w) A' (.call (.ref fI) ⟨.ref x :: rest, []⟩) (InitBack x fun r s' => match r with | .ok (.ret v) => Q v s' | _ => False) { s with heap := h' }) :
    wpAny (model prog w) A (call (.ref Cl) rest []) Q E s := by
  refine wpAny_call ?_
  have X := C.X.keeps hB.stays
  obtain ⟨hh, g, d, t, os⟩ := s
  refine codeAny_mono (R := fun r s' => match r with | .ok (.ret v) => Q v s' | _ => False) ?_ (fun r s' q => ?_)
  · refine make_core (makes_of X hm) (looks_findIn X hi) (fun self => bind_fn X self (beq_iff_eq.mp hf)) (.inl rfl) (h _ (hh.objs.size + 1) hh.objs.size ((hh.push emptyDict).push (instObj Cl hh.objs.size)) ?_ ?_ ?_ ?_ ?_ ?_ ?_ ?_)
    · exact ⟨r.handled, by have := r.depth; show A.depth + 1 + n ≤ 900; omega, by have := r.units; show A.units + 1 + 10 * n ≤ 9000; omega⟩
    · cases e : hh.get? (hh.objs.size + 1) with
      | none => rfl
      | some o => exact absurd (Heap.lt_size e) (Nat.not_lt.mpr (Nat.le_succ _))
    · cases e : hh.get? hh.objs.size with
      | none => rfl
      | some o => exact absurd (Heap.lt_size e) (Nat.lt_irrefl _)
    · exact Nat.succ_ne_self _
    · exact Nat.le_succ_of_le hB.size
    · exact hB.size
    · exact ⟨fun c o e => Heap.get?_push_of_some _ (Heap.get?_push_of_some _ (hB.stays c o e)), by rw [Heap.size_push, Heap.size_push]; exact Nat.le_succ_of_le (Nat.le_succ_of_le hB.size)⟩
    · intro c o e
      by_cases q1 : c = hh.objs.size + 1
      · subst q1; rw [upd_self] at e; cases e
        have := Heap.get?_push_size (hh.push emptyDict) (o := instObj Cl hh.objs.size) rfl
        rwa [Heap.size_push] at this
      · rw [upd_ne q1] at e
        by_cases q2 : c = hh.objs.size
        · subst q2; rw [upd_self] at e; cases e
          exact Heap.get?_push_of_some _ (Heap.get?_push_size _ rfl)
        · rw [upd_ne q2] at e
          exact Heap.get?_push_of_some _ (Heap.get?_push_of_some _ e)
  · cases r with
    | error e => exact q.elim
    | ok fl => cases fl <;> first | exact q | exact q.elim
end
end Mine

namespace Mine

theorem tcall_dict0 : checkTypeCall "dict" ⟨[], []⟩ = pure () := by kernel_rfl
theorem ncall_dict0 : checkBuiltinCall "dict.__new__" ⟨[.type "dict"], []⟩ = pure () := by kernel_rfl
theorem args_dict_init1 (a : Value) : argsOk "dict.__init__" ⟨[a], []⟩ := by unfold argsOk; kernel_rfl

section
variable {prog : Program} {w : World} {A : Around} {E : Value → Shared → Prop} {s : Shared} {K : Frag} {mg mb : Str → Option Value} {b : Heap} {L : Addr} {m : Str → Option Value} {ld : Ld} {env : Env} {sc : Scope}

theorem code_dict_new0 {Q₁ : Value → Shared → Prop} (h : Q₁ (.ref s.heap.objs.size) { s with heap := s.heap.push { cls := .type "dict", data := .dict #[] } }) :
    codeAny (model prog w) A (.call (.builtin "dict.__new__") ⟨[.type "dict"], []⟩) (wants Q₁ E) s := by
  refine codeAny_call_builtin F.kt_plain_dict_new F.kt_entry_dict_new (wpAny_of_eq ncall_dict0 ?_)
  have hsub := F.kt_sub_dict
  have hmro := F.kt_mro_dict
  obtain ⟨hp, g, d, tk, os⟩ := s
  unfold Builtin.«dict.__new__»
  wp_walk
  exact h
theorem call_dict0 {Q : Value → Shared → Prop} (h : Q (.ref s.heap.objs.size) { s with heap := s.heap.push (dictOf [] 0) }) : wpAny (model prog w) A (call (.type "dict") []) Q E s := by
  refine callType_codes (Q₁ := fun obj s₁ => obj = .ref s.heap.objs.size ∧ s₁ = { s with heap := s.heap.push { cls := .type "dict", data := .dict #[] } }) F.kt_called_dict tcall_dict0 F.entry_dict_init (code_dict_new0 ⟨rfl, rfl⟩) ?_
  rintro obj s₁ ⟨rfl, rfl⟩
  have hnew : (s.heap.push { cls := .type "dict", data := .dict #[] }).DictOf (intKind prog w) s.heap.objs.size [] := Heap.DictOf.new s.heap
  refine ⟨hnew.typeIs, args_dict_init1 _, ?_⟩
  unfold Builtin.«dict.__init__»
  refine wpAny_bind ?_
  unfold Builtin.Dict.selfAndRest
  refine wpAny_bind (wpAny_notOrdered_dict hnew.typeIs ?_)
  show wpAny _ _ (pure (s.heap.objs.size, ([] : List Value))) _ _ _
  refine wpAny_pure ?_
  unfold Builtin.Dict.updateCommon
  refine wpAny_bind (m := Builtin.Dict.addKeywords s.heap.objs.size []) (wpAny_pure ?_)
  exact wpAny_pure ⟨rfl, h⟩

/-- dict.fromkeys, bound to dict -/
def fkObj : Obj := { cls := .type "builtin_function_or_method", data := .fields #[.builtin "dict.fromkeys", .type "dict"] }
theorem type_fk : typeOf (.builtin "dict.fromkeys") = pure (.type "classmethod_descriptor") := by show builtinType _ = _; rw [builtinType_eq_fast]; kernel_rfl
theorem entry_fk : entryFor table "dict.fromkeys" = some Builtin.«dict.fromkeys» := entryFor_of_tree (by kernel_rfl)
theorem entry_fkl : entryFor table "dict.fromkeys.loop" = some Builtin.«dict.fromkeys.loop» := entryFor_of_tree (by kernel_rfl)
theorem quiet_fk {as : Args} : (Code.builtin "dict.fromkeys" as).quiet = true := Code.quiet_builtin _ (by decide +kernel)
theorem quiet_fkl {as : Args} : (Code.builtin "dict.fromkeys.loop" as).quiet = true := Code.quiet_builtin _ (by decide +kernel)
theorem type_dict : isType (.type "dict") = pure true := by first | rfl | kernel_rfl | (unfold isType; rw [isSubtype_type]; kernel_rfl)
theorem owner_fk : (kfb_private% "ownerAndName") "dict.fromkeys" = ("dict", "fromkeys") := by first | decide +kernel | kernel_rfl
theorem check_fk {l : Addr} : checkBoundCall "dict.fromkeys" ⟨[.type "dict", .ref l], []⟩ = pure () := by first | kernel_rfl | rfl

theorem run_fkget {M : Model} {P : Fin → Shared → Prop} (h : P (.done (.ret (.ref s.heap.objs.size))) { s with heap := s.heap.push fkObj }) :
    wpAny M A (Builtin.«classmethod_descriptor.__get__» ⟨[.builtin "dict.fromkeys", .none, .type "dict"], []⟩) P E s := by
  unfold Builtin.«classmethod_descriptor.__get__»
  refine wpAny_bind (wpAny_of_eq (a := (.builtin "dict.fromkeys", none, some (.type "dict"))) (by first | rfl | kernel_rfl) ?_)
  simp only [owner_fk]
  refine wpAny_bind (wpAny_of_eq (a := .type "dict") rfl ?_)
  refine wpAny_bind (wpAny_of_eq (a := true) type_dict ?_)
  refine KFB.if_not rfl ?_
  refine wpAny_bind (wpAny_of_eq (a := true) F.kt_sub_dict ?_)
  refine KFB.if_not rfl ?_
  exact wpAny_bind (wpAny_newObj_type (wpAny_pure h))

theorem gm_fromkeys {pl : Sem Bool} {Q : Value × List Value → Shared → Prop} (C : Cx K mg mb b) (z : Z b L m ld s.heap)
    (e : findCls K (.type "dict") (.type "type") (PySem.Str.ofString "fromkeys") = some (.get (.builtin "classmethod_descriptor.__get__") (.builtin "dict.fromkeys") .none (.type "dict")))
    (h : Q (.ref s.heap.objs.size, []) { s with heap := s.heap.push fkObj, toks := s.toks + 1 }) :
    wpAny (model prog w) A (getMethod (.type "dict") (PySem.Str.ofString "fromkeys") pl) Q E s := by
  have X := C.X.keeps z.stays
  have hstub : opaqueClassAbove (.type "dict") = pure none := by unfold opaqueClassAbove; dsimp only; rw [show Manifest.isStub "dict" = false by decide +kernel]; rfl
  have ht : typeOf (.type "dict") = pure (.type "type") := by first | rfl | kernel_rfl
  have L0 : Looks (model prog w) s.heap (typeOf (.type "dict")) (.type "type") := Looks.of_pure ht
  have hg : findIn K (.type "type") "__getattribute__" = some (some (.builtin "type.__getattribute__")) := type_tga
  unfold getMethod specialOf
  refine wpAny_bind (wpAny_bind (L0.here ((looks_findIn X hg).here ?_)))
  dsimp only
  rw [if_pos canon_tga]
  refine wpAny_bind (wpAny_mono (Q := fun v => Q (v, [])) (E := E) ?_ (fun _ _ z => wpAny_pure z) fun _ _ z => z)
  have LO : Looks (model prog w) s.heap (opaqueClassAbove (.type "dict")) none := Looks.of_pure hstub
  refine cls_open X LO L0 hg (looks_hook X (r := none) (by rfl)) (by show subIn K _ _ = _; rfl) e ?_
  show wpAny _ _ (holding [.builtin "dict.fromkeys"] (call (.builtin "classmethod_descriptor.__get__") [.builtin "dict.fromkeys", .none, .type "dict"]) >>= fun v => ret v) _ _ _
  exact wpAny_bind (wpAny_holding (wpAny_call_entry KFB.slot_get type_fk KFB.entry_get (run_fkget ⟨_, rfl, wpAny_pure (wpAny_pure h)⟩) (KFB.args_get _ _ _)))

theorem cw_bound {pos : Pos} {u : Addr} {ub : Obj} {ubv : Array Value} {e : Expr} {rest : List Expr} {Q : Value → Shared → Prop} (hub : ub.cls = .type "builtin_function_or_method") (hud : ub.data = .fields ubv)
    (h : wpAny (model prog w) A (spliced (backTo pos (starEach (e :: rest) env))) (fun vs s₁ => s₁.heap.get? u = some ub ∧ wpAny (model prog w) A (call (.ref u) vs) Q E s₁) E s)
    (he : starEach (e :: rest) env = (false, eval e env) :: starEach rest env := by rfl) (hplain : (backTo pos (starEach rest env)).any (·.1) = false := by rfl) :
    wpAny (model prog w) A (callWith pos (.ref u) [] (backTo pos (starEach (e :: rest) env)) []) Q E s := by
  rw [he] at h ⊢
  have hpl : ((backTo pos ((false, eval e env) :: starEach rest env)).any (·.1)) = false := by show (false || (backTo pos (starEach rest env)).any (·.1)) = false; rw [hplain]; rfl
  unfold callWith
  refine wpAny_bind (wpAny_holding (wpAny_mono (evalArgs_plain (f := .ref u) (Q := fun a s₁ => s₁.heap.get? u = some ub ∧ wpAny (model prog w) A (call (.ref u) a.pos a.kw) Q E s₁) h) (fun x s₁ h₁ => wpAny_bind (wpAny_standAt ?_)) fun _ _ x => x))
  obtain ⟨ho, hcall⟩ := h₁
  simp only [hpl, List.any_nil, Bool.or_false]
  refine wpAny_bind (m := keeperOf (.ref u)) ?_
  unfold keeperOf
  refine wpAny_bind (wpAny_load ho ?_)
  simp only [hub, show (Value.type "builtin_function_or_method" != Value.type "method") = true by decide, show (Value.type "builtin_function_or_method" == Value.type "builtin_function_or_method" || Value.type "builtin_function_or_method" == Value.type "method-wrapper") = true by decide, if_true, hud]
  refine wpAny_pure ?_
  exact wpAny_bind (wpAny_mono hcall (fun r s₂ hr => wpAny_bind (wpAny_holding (wpAny_point (wpAny_pure hr)))) fun _ _ x => x)

theorem den_builtin {id : String} {args : Args} {bi : Builtin} (hb : entryFor table id = some bi) : (model prog w).den (.builtin id args) = bi args := by
  show (match entryFor table id with | some b => b args | none => unsupported ((withoutEnding? id "#data").getD id)) = _
  rw [hb]
theorem code_fkloop {l it d : Addr} {vs : List Value} {ns : List Int} {Q : Value → Shared → Prop} {h₀ : Heap} (hh : A.handled = none)
    (hit : s.heap.IsListIter it l 0) (hl : s.heap.IsList l vs.toArray) (hd : s.heap.DictOf (intKind prog w) d []) (hi : IntsAre vs ns) (h1 : it ≠ l) (h2 : it ≠ d) (h3 : l ≠ d) (hns : ns.length ≤ 1000)
    (hk0 : ∀ c o, c ≠ it → c ≠ d → h₀.get? c = some o → s.heap.get? c = some o)
    (h : ∀ h' tk kvs, h'.DictOf (intKind prog w) d kvs → kvs.map (·.1) = ns.foldl (fun acc k => if k ∈ acc then acc else acc ++ [k]) [] → (∀ c o, c ≠ it → c ≠ d → h₀.get? c = some o → h'.get? c = some o) → Q (.ref d) { s with heap := h', toks := tk }) :
    codeAny (model prog w) A (.builtin "dict.fromkeys.loop" ⟨[.ref d, .ref it, .none], []⟩) (wants Q E) s := by
  refine codeAny_loop' quiet_fkl (fun n s' => ∃ i h' tk kvs, s' = { s with heap := h', toks := tk } ∧ i ≤ ns.length ∧ n = ns.length - i ∧ h'.IsListIter it l i ∧ h'.IsList l vs.toArray ∧ h'.DictOf (intKind prog w) d kvs ∧
    kvs.map (·.1) = (ns.take i).foldl (fun acc k => if k ∈ acc then acc else acc ++ [k]) [] ∧ kvs.length ≤ i ∧ ∀ c o, c ≠ it → c ≠ d → h₀.get? c = some o → h'.get? c = some o) ?_ ns.length
    ⟨0, s.heap, s.toks, [], rfl, Nat.zero_le _, rfl, hit, hl, hd, rfl, Nat.le_refl _, hk0⟩
  rintro n s' ⟨i, h', tk, kvs, rfl, hi1, rfl, hit', hl', hd', hkv, hkl, hk'⟩
  rw [den_builtin entry_fkl]
  have hA : (A.under (.builtin "dict.fromkeys.loop" ⟨[.ref d, .ref it, .none], []⟩)).handled = none := hh
  have hvl := hi.length
  unfold Builtin.«dict.fromkeys.loop»
  by_cases hlt : i < ns.length
  · obtain ⟨t, hx⟩ := hi.get i ns[i] (by simp [hlt])
    refine wpAny_bind (wpAny_pyNext_list_item (s := { s with heap := h', toks := tk }) hit' hl' (x := .int ns[i] t) (by simpa using hx) fun h₁ hit₁ hs₁ => ?_)
    have hd₁ := hd'.sameBut hs₁ h2.symm
    have hl₁ : h₁.IsList l vs.toArray := hl'.extBut hs₁.extBut h1.symm
    refine wpAny_bind (wpAny_typeOf (s := { s with heap := h₁, toks := tk }) hd₁.typeIs ?_)
    rw [if_pos (by decide)]
    refine wpAny_bind (m := Builtin.Dict.addrOf (.ref d)) (wpAny_pure ?_)
    refine wpAny_bind (wpAny_holding (wpAny_dictSet_pairs (s := { s with heap := h₁, toks := tk }) (intKind_is prog w ns[i] t) hd₁ (fun h₂ hd₂ hs₂ => ?_) (Nat.le_trans hkl (Nat.le_trans (by omega : i ≤ 1000) (by decide)))))
    refine wpAny_pure (.inl ⟨rfl, ns.length - (i + 1), by omega, i + 1, h₂, tk + 1, _, rfl, hlt, rfl, ?_, ?_, hd₂, ?_, ?_, ?_⟩)
    · exact hit₁.extBut hs₂.extBut h2
    · exact hl₁.extBut hs₂.extBut h3
    · rw [List.take_add_one, List.getElem?_eq_getElem hlt, Option.toList_some, List.foldl_append, List.foldl_cons, List.foldl_nil, ← hkv]
      have hmem : (kvs.any fun kv => decide (kv.1 = ns[i])) = decide (ns[i] ∈ kvs.map (·.1)) := by
        rw [Bool.eq_iff_iff, List.any_eq_true, decide_eq_true_eq, List.mem_map]
        constructor
        · rintro ⟨p, hp, q⟩; exact ⟨p, hp, of_decide_eq_true q⟩
        · rintro ⟨p, hp, q⟩; exact ⟨p, hp, decide_eq_true q⟩
      unfold stored
      rw [hmem]
      by_cases q : ns[i] ∈ kvs.map (·.1)
      · rw [if_pos (decide_eq_true q), if_pos q]; exact keys_map_store kvs ns[i] .none
      · rw [if_neg (by simpa using q), if_neg q, List.map_append]; rfl
    · exact Nat.le_trans (stored_length_le _ _ _) (Nat.succ_le_succ hkl)
    · intro c o q1 q2 q3
      exact (hs₂.2 c q2).trans ((hs₁.2 c q1).trans (hk' c o q1 q2 q3))
  · have hin : i = ns.length := by omega
    subst hin
    refine wpAny_bind (wpAny_pyNext_list_end (s := { s with heap := h', toks := tk }) hA hit' hl' (by rw [List.getElem?_toArray, List.getElem?_eq_none (by omega)]) fun h₁ he₁ => ?_)
    rw [List.take_length] at hkv
    exact wpAny_pure (h h₁ tk kvs (hd'.extBut he₁ h2.symm) hkv fun c o q1 q2 q3 => he₁ c o q1 (hk' c o q1 q2 q3))

end
end Mine

namespace Mine

def dedup (ns : List Int) : List Int := ns.foldl (fun acc k => if k ∈ acc then acc else acc ++ [k]) []

section
variable {prog : Program} {w : World} {A : Around} {E : Value → Shared → Prop} {s : Shared} {K : Frag} {mg mb : Str → Option Value} {b : Heap} {L : Addr} {m : Str → Option Value} {ld : Ld} {env : Env} {sc : Scope}

theorem call_fromkeys {x l : Addr} {vs : List Value} {ns : List Int} {n : Nat} {Q : Value → Shared → Prop} (hh : A.handled = none) (hx : s.heap.get? x = some fkObj) (hl : s.heap.get? l = some (listOf vs.toArray n)) (hi : IntsAre vs ns) (hns : ns.length ≤ 1000)
    (h : ∀ d h' tk kvs, s.heap.get? d = none → (∀ c o, s.heap.get? c = some o → h'.get? c = some o) → h'.DictOf (intKind prog w) d kvs → kvs.map (·.1) = dedup ns → d = s.heap.objs.size → Q (.ref d) { s with heap := h', toks := tk }) :
    wpAny (model prog w) A (call (.ref x) [.ref l]) Q E s := by
  refine wpAny_call (codeAny_of_tree ?_)
  show wpAny _ A.in1 (callAny (.ref x) ⟨[.ref l], []⟩) _ _ s
  simp only [callAny]
  refine wpAny_bind (wpAny_load hx ?_)
  simp only [fkObj, show (Value.type "builtin_function_or_method" == Value.type "method" || Value.type "builtin_function_or_method" == Value.type "builtin_function_or_method" || Value.type "builtin_function_or_method" == Value.type "method-wrapper") = true by decide, if_true]
  refine KFB.if_so (by decide) ?_
  refine wpAny_bind (wpAny_of_eq (a := ()) check_fk ?_)
  refine wpAny_bind (wpAny_pure (wpAny_pure ?_))
  refine ⟨quiet_fk, codeAny_builtin entry_fk ?_⟩
  unfold Builtin.«dict.fromkeys»
  refine wpAny_bind (wpAny_of_eq (a := true) type_dict ?_)
  refine KFB.if_not rfl ?_
  refine wpAny_bind (wpAny_of_eq (a := true) F.kt_sub_dict ?_)
  refine KFB.if_not rfl ?_
  refine KFB.if_not rfl ?_
  refine wpAny_bind (wpAny_rule ?_)
  refine wpAny_bind (wpAny_pure ?_)
  refine wpAny_bind (call_dict0 ?_)
  refine wpAny_holding ?_
  have hne : l ≠ s.heap.objs.size := ne_of_lt1 (Heap.lt_size hl)
  have hl₁ : (s.heap.push (dictOf [] 0)).get? l = some (listOf vs.toArray n) := Heap.get?_push_of_some _ hl
  have hL₁ : (s.heap.push (dictOf [] 0)).IsList l vs.toArray := ⟨_, hl₁, rfl, n, rfl⟩
  have hd₁ : (s.heap.push (dictOf [] 0)).DictOf (intKind prog w) s.heap.objs.size [] := Heap.DictOf.new s.heap
  refine wpAny_bind (wpAny_typeOf (s := { s with heap := s.heap.push (dictOf [] 0) }) hL₁.typeIs ?_)
  refine wpAny_bind (wpAny_typeOf (s := { s with heap := s.heap.push (dictOf [] 0) }) hd₁.typeIs ?_)
  rw [if_neg (by decide)]
  refine wpAny_bind (wpAny_typeOf (s := { s with heap := s.heap.push (dictOf [] 0) }) hd₁.typeIs ?_)
  rw [if_neg (by decide)]
  refine wpAny_bind (wpAny_pyIter_list (s := { s with heap := s.heap.push (dictOf [] 0) }) hL₁ ?_)
  refine wpAny_pure ⟨quiet_fkl, ?_⟩
  have hsz : (s.heap.push (dictOf [] 0)).objs.size = s.heap.objs.size + 1 := Heap.size_push ..
  dsimp only
  rw [hsz]
  have hit : ((s.heap.push (dictOf [] 0)).push { cls := .type "list_iterator", data := .fields #[.ref l, .int 0 0] }).get? (s.heap.objs.size + 1) = some { cls := .type "list_iterator", data := .fields #[.ref l, .int 0 0] } := by
    have := Heap.get?_push_size (s.heap.push (dictOf [] 0)) (o := { cls := .type "list_iterator", data := .fields #[.ref l, .int 0 0] }) rfl
    rwa [hsz] at this
  refine codeAny_mono (code_fkloop (Q := Q) (E := E) (h₀ := s.heap) (s := { s with heap := (s.heap.push (dictOf [] 0)).push { cls := .type "list_iterator", data := .fields #[.ref l, .int 0 0] } }) hh ⟨_, hit, rfl, rfl⟩ ⟨_, Heap.get?_push_of_some _ hl₁, rfl, n, rfl⟩ (hd₁.push _) hi (ne_of_lt2 (Heap.lt_size hl)).symm (Nat.succ_ne_self _) hne hns (fun c o _ _ e => Heap.get?_push_of_some _ (Heap.get?_push_of_some _ e)) fun h' tk kvs hd hkv hk => ?_) fun r s' q => ?_
  · have hnone : s.heap.get? s.heap.objs.size = none := by
      cases e : s.heap.get? s.heap.objs.size with
      | none => rfl
      | some o => exact absurd (Heap.lt_size e) (Nat.lt_irrefl _)
    exact h _ h' tk kvs hnone (fun c o e => hk c o (ne_of_lt2 (Heap.lt_size e)) (ne_of_lt1 (Heap.lt_size e)) e) hd hkv rfl
  · exact q

theorem dm_keys {d : Addr} {o : Obj} {kvs : List (Int × Value)} {pl : Sem Bool} {Q : Value × List Value → Shared → Prop} (z : Z b L m ld s.heap) (hd : ld d = some o) (hk : o.IsDictOf (intKind prog w) kvs) (h : Q (.builtin "dict.keys", [.ref d]) s) :
    wpAny (model prog w) A (getMethod (.ref d) "keys" pl) Q E s :=
  getMethod_builtin (dictAt z hd hk).typeIs PySem.F.plainAttrs_dict PySem.F.slot_dict_keys PySem.F.type_dict_keys (dictAt z hd hk).mapOf.noDict h

abbrev keysObj (d : Addr) : Obj := { cls := .type "dict_keys", data := .fields #[.ref d] }
theorem d_keys {d : Addr} {o : Obj} {kvs : List (Int × Value)} {Q : Value → Shared → Prop} (C : Cx K mg mb b) (z : Z b L m ld s.heap) (hd : ld d = some o) (hn : New b d) (hk : o.IsDictOf (intKind prog w) kvs)
    (h : Q (.ref s.heap.objs.size) { s with heap := s.heap.push (keysObj d) }) : wpAny (model prog w) A (call (.builtin "dict.keys") [.ref d]) Q E s :=
  call_meetsIn PySem.F.slot_dict_keys (dictAt z hd hk).typeIs PySem.F.entry_dict_keys (PySem.F.args_dict_keys_1 _) (kdl_meets_keys (intKind prog w) d (C.notSys hn)) ⟨⟨_, dictAt z hd hk⟩, h⟩

theorem call_list_keys {v d : Addr} {o : Obj} {kvs : List (Int × Value)} {mm : Nat} {Q : Value → Shared → Prop} (r : Room A mm) (z : Z b L m ld s.heap) (hv : ld v = some (keysObj d)) (hd : ld d = some o) (hk : o.IsDictOf (intKind prog w) kvs) (hn : kvs.length ≤ 1000)
    (h : ∀ a h' tk vs n, ld a = none → New b a → Z b L m (upd ld a (listOf vs.toArray n)) h' → IntsAre vs (kvs.map (·.1)) → Q (.ref a) { s with heap := h', toks := tk }) :
    wpAny (model prog w) A (call (.type "list") [.ref v]) Q E s := by
  obtain ⟨ep, hat⟩ := (dictAt (prog := prog) (w := w) z hd hk).dictAt
  refine kdl_call (kdl_keys (knd := intKind prog w) (kvs := kvs) (ep := ep)) r.handled ⟨⟨_, z.led _ _ hv, rfl, rfl⟩, hat⟩ (Nat.le_trans hn (by decide)) fun h' tk acc c hkp hD hacc => ?_
  have hp := z.push (listOf acc c)
  refine h _ h' tk acc.toList c z.size_none z.bs.size ?_ ?_
  · rw [Array.toArray_toList]
    exact {
      ns := z.ns.keeps hkp
      led := fun x o e => by
        by_cases q : x = s.heap.objs.size
        · subst q; rw [upd_self] at e; cases e; exact hD
        · rw [upd_ne q] at e; exact hkp _ _ (z.led _ _ e)
      fr := hp.fr
      base := hp.base
      above := z.above }
  · have hlen : acc.toList.length = (kvs.map (·.1)).length := by rw [Array.length_toList, hacc.1, List.length_map]
    have key : ∀ (l : List Value) (ns : List Int), l.length = ns.length → (∀ (j : Nat) (u : Value), l[j]? = some u → ∃ k t, ns[j]? = some k ∧ u = Value.int k t) → IntsAre l ns := by
      intro l
      induction l with
      | nil => intro ns hl _; cases ns with | nil => exact .nil | cons _ _ => simp at hl
      | cons u l ih =>
        intro ns hl hj
        cases ns with
        | nil => simp at hl
        | cons k ns =>
          obtain ⟨k', t, h1, rfl⟩ := hj 0 u rfl
          cases h1
          exact .cons _ _ (ih ns (by simpa using hl) fun j u hu => hj (j + 1) u hu)
    refine key _ _ hlen fun j u hu => ?_
    obtain ⟨k, x, hx, hku⟩ := hacc.2 j u (by rw [← Array.getElem?_toList]; exact hu)
    obtain ⟨t, rfl⟩ := Value.isInt_shape hku
    exact ⟨k, t, by rw [List.getElem?_map, hx]; rfl, rfl⟩
end
end Mine

namespace Mine

/-- the attributes of a Clause -/
def clEs (h1 h2 h3 : Int) (t1 t2 t3 : Tok) (v1 v2 : Value) (l : Addr) : List DictEntry :=
  [⟨h1, .str "learned" t1, v1⟩, ⟨h2, .str "rule" t2, v2⟩, ⟨h3, .str "lits" t3, .ref l⟩]

/-- a clause at c, its dict at d, its wishes at l -/
structure Cl (ld : Ld) (c d l : Addr) (v1 v2 : Value) (lits : List Int) : Prop where
  inst : ld c = some (instObj 94 d)
  dict : ∃ h1 h2 h3 t1 t2 t3 n, ld d = some (dictOf (clEs h1 h2 h3 t1 t2 t3 v1 v2 l) n)
  list : ∃ vs n, ld l = some (listOf vs.toArray n) ∧ IntsAre vs lits

/-- the written body and scope of a def of the text -/
def fnBody (K : Frag) (f : Addr) : List Stmt := match K.lookup f with
  | some ⟨_, _, .func fd, _⟩ => (match fd.body with | .stmts b => b | _ => [])
  | _ => []
def fnScope (K : Frag) (f : Addr) : Scope := match K.lookup f with
  | some ⟨_, _, .func fd, _⟩ => fd.scope
  | _ => default
noncomputable abbrev clBody (w : World) : List Stmt := fnBody (KK w) 50
noncomputable abbrev clScope (w : World) : Scope := fnScope (KK w) 50

section
variable {w : World} {A : Around} {E : Value → Shared → Prop} {s : Shared} {mg mb : Str → Option Value} {b : Heap}

set_option maxHeartbeats 4000000 in
theorem clinit_spec {c cd lw : Addr} {v1 v2 : Value} {pos : List Value} {vs : List Value} {ns : List Int} {n : Nat} {R : Result → Shared → Prop}
    (C : Cx (KK w) mg mb b) (hB : Bs b s.heap) (r : Room A 1) (hc : s.heap.get? c = some (instObj 94 cd)) (hcd : s.heap.get? cd = some (dictOf [] 0)) (hncd : New b cd)
    (hl : s.heap.get? lw = some (listOf vs.toArray n)) (hi : IntsAre vs ns) (hns : ns.length ≤ 1000)
    (hpos : pos = [.ref c, .ref lw] ∧ v1 = .bool false ∧ v2 = .none ∨ pos = [.ref c, .ref lw, v1, v2])
    (hv1 : handedIn v1 = true) (hv2 : handedIn v2 = true)
    (h : ∀ h' tk ld' l, Led ld' h' → (∀ x o, x ≠ cd → s.heap.get? x = some o → ld' x = some o) → s.heap.get? l = none → New b l → Cl ld' c cd l v1 v2 (dedup ns) → R (.ok (.ret .none)) { s with heap := h', toks := tk }) :
    codeAny (model PP w) A (.call (.ref 50) ⟨pos, []⟩) R s := by
  have hX := C.X.keeps hB.stays
  have hcl : c ≠ cd := ne_of_cls hc hcd (by simp)
  have hlcd : lw ≠ cd := ne_of_cls hl hcd (by simp)
  have go : ∀ (A' : Around) (env : Env) (L : Addr) (h₁ : Heap) (tk : Nat) (m : Loc) (sc : Scope) (body : List Stmt), body = clBody w → sc = clScope w → Room A' 0 → EnvIs env sc L → Z b L m s.heap.get? h₁ → m "self" = some (.ref c) → m "lits" = some (.ref lw) → m "learned" = some v1 → m "rule" = some v2 →
      wpAny (model PP w) A' (execs body env) (fun fl s' => R (.ok (.ret (match fl with | .ret v => v | _ => .none))) s') (fun _ _ => False) { s with heap := h₁, toks := tk } := by
    rintro A' env L h₁ tk m sc body rfl rfl r' e z hm1 hm2 hm3 hm4
    -- self.learned = learned
    refine wpAny_execs_cons (plainObj_wpAny_Assign_Attribute (ev_loc e z hm3 (ev_loc e z hm1 (sa_own (es' := fun t1 => [⟨PyData.keyHash w.params "learned", .str "learned" t1, v1⟩]) (n' := 1) C z hc hcd hncd rfl rfl rfl rfl rfl (fun _ => rfl) (fun _ => by show 1 ≤ 1000; decide) fun h₂ t1 tk₂ z => ?_))))
    have hc1 := (upd_ne (ld := s.heap.get?) (o := dictOf [⟨PyData.keyHash w.params "learned", .str "learned" t1, v1⟩] 1) hcl).trans hc
    refine wpAny_execs_cons (plainObj_wpAny_Assign_Attribute (ev_loc e z hm4 (ev_loc e z hm1 (sa_own (es' := fun t2 => [⟨PyData.keyHash w.params "learned", .str "learned" t1, v1⟩, ⟨PyData.keyHash w.params "rule", .str "rule" t2, v2⟩]) (n' := 2) C z hc1 upd_self hncd rfl rfl rfl rfl rfl (fun _ => rfl) (fun _ => by show 2 ≤ 1000; decide) fun h₃ t2 tk₃ z => ?_))))
    dsimp only
    -- self.lits = list(dict.fromkeys(lits).keys())
    have hrest : ∀ x o, x ≠ cd → s.heap.get? x = some o → upd (upd s.heap.get? cd (dictOf [⟨PyData.keyHash w.params "learned", .str "learned" t1, v1⟩] 1)) cd
        (dictOf [⟨PyData.keyHash w.params "learned", .str "learned" t1, v1⟩, ⟨PyData.keyHash w.params "rule", .str "rule" t2, v2⟩] 2) x = some o := fun x o q e => by rw [upd_ne q, upd_ne q]; exact e
    have hcd2 : upd (upd s.heap.get? cd (dictOf [⟨PyData.keyHash w.params "learned", .str "learned" t1, v1⟩] 1)) cd
        (dictOf [⟨PyData.keyHash w.params "learned", .str "learned" t1, v1⟩, ⟨PyData.keyHash w.params "rule", .str "rule" t2, v2⟩] 2) cd = _ := upd_self
    have hnone : ∀ x, upd (upd s.heap.get? cd (dictOf [⟨PyData.keyHash w.params "learned", .str "learned" t1, v1⟩] 1)) cd
        (dictOf [⟨PyData.keyHash w.params "learned", .str "learned" t1, v1⟩, ⟨PyData.keyHash w.params "rule", .str "rule" t2, v2⟩] 2) x = none → s.heap.get? x = none := fun x q => by
      cases q' : s.heap.get? x with
      | none => rfl
      | some o =>
        by_cases hx : x = cd
        · subst hx; rw [hcd2] at q; cases q
        · rw [hrest x o hx q'] at q; cases q
    generalize upd (upd s.heap.get? cd (dictOf [⟨PyData.keyHash w.params "learned", .str "learned" t1, v1⟩] 1)) cd
        (dictOf [⟨PyData.keyHash w.params "learned", .str "learned" t1, v1⟩, ⟨PyData.keyHash w.params "rule", .str "rule" t2, v2⟩] 2) = ld at z hrest hcd2 hnone
    refine wpAny_execs_cons (plainObj_wpAny_Assign_Attribute (Call_ (ev_bi e C z rfl PyProof.Rows.boot_list (Pv.callWith_type1 (args_cons ?_)))))
    refine MethodCall_ (MethodCall_ (ev_bi e C z rfl PyProof.Rows.boot_dict (gm_fromkeys C z rfl ?_)))
    dsimp only
    have z4 := z.push fkObj
    have hfk := z.size_none
    generalize hfa : h₃.objs.size = fa at z4 hfk ⊢
    have hfk' : ∀ x o, ld x = some o → upd ld fa fkObj x = some o := fun x o q => upd_tmp hfk q
    refine cw_bound rfl rfl (args_cons (ev_loc e z4 hm2 (args_nil ⟨z4.led _ _ upd_self, ?_⟩)))
    refine call_fromkeys r'.handled (z4.led _ _ upd_self) (z4.led _ _ (hfk' _ _ (hrest _ _ hlcd hl))) hi hns fun d h₅ tk₅ kvs hd0 hk5 hd5 hkv hds => ?_
    obtain ⟨od, hod, hkd⟩ := Heap.dictOf_iff.mp hd5
    have z5 : Z b L m (upd (upd ld fa fkObj) d od) h₅ := by
      have := z4.ext hk5
      refine { ns := this.ns, led := fun x o q => ?_, fr := ?_, base := ?_, above := this.above }
      · by_cases hx : x = d
        · subst hx; rw [upd_self] at q; cases q; exact hod
        · rw [upd_ne hx] at q; exact this.led _ _ q
      · rw [upd_ne (fun q => by rw [← q] at hd0; obtain ⟨o, _, _, ho, _⟩ := z4.ns; exact absurd (ho.symm.trans hd0) (by simp))]; exact this.fr
      · intro x o q
        rw [upd_ne (fun q' => by rw [← q'] at hd0; exact absurd ((z4.stays _ _ q).symm.trans hd0) (by simp))]; exact this.base _ _ q
    have hnd : New b d := by rw [hds]; exact z4.bs.size
    have hd5' : upd ld fa fkObj d = none := by
      cases q : upd ld fa fkObj d with
      | none => rfl
      | some o => exact absurd ((z4.led _ _ q).symm.trans hd0) (by simp)
    refine dm_keys z5 upd_self hkd (callWith_method0 (d_keys C z5 upd_self hnd hkd (args_nil ?_)))
    have z6 := z5.push (keysObj d)
    have hsz := z5.size_none
    have hkl : kvs.length ≤ 1000 := by
      have : (kvs.map (·.1)).length = (dedup ns).length := by rw [hkv]
      rw [List.length_map] at this
      have h2 : ∀ (l acc : List Int), (l.foldl (fun acc k => if k ∈ acc then acc else acc ++ [k]) acc).length ≤ acc.length + l.length := by
        intro l
        induction l with
        | nil => intro acc; simp
        | cons k l ih =>
          intro acc
          rw [List.foldl_cons]
          refine Nat.le_trans (ih _) ?_
          split
          · simp only [List.length_cons]; omega
          · simp only [List.length_append, List.length_cons, List.length_nil]; omega
      have h3 := h2 ns []
      simp only [List.length_nil, Nat.zero_add] at h3
      have h4 : (dedup ns).length ≤ ns.length := h3
      omega
    refine call_list_keys r' z6 upd_self (upd_tmp hsz upd_self) hkd hkl fun l h₇ tk₇ vs' n' hl0 hnl z7 hi7 => ?_
    rw [hkv] at hi7
    have hup : ∀ x o, ld x = some o → upd (upd (upd (upd ld fa fkObj) d od) h₅.objs.size (keysObj d)) l (listOf vs'.toArray n') x = some o := fun x o q =>
      upd_tmp hl0 (upd_tmp hsz (upd_tmp hd5' (hfk' _ _ q)))
    refine ev_loc e z7 hm1 (sa_own C z7 (hup _ _ (hrest _ _ hcl hc)) (hup _ _ hcd2) hncd rfl rfl rfl rfl rfl (fun _ => rfl) (fun _ => by show 3 ≤ 1000; decide) fun h₈ t3 tk₈ z8 => ?_)
    have hlcd' : l ≠ cd := fun q => by
      have := hup _ _ hcd2
      rw [← q, upd_self] at this
      have := congrArg (fun o => o.map Obj.cls) this
      simp at this
    refine wpAny_execs_nil (h h₈ tk₈ _ l z8.led (fun x o q1 q2 => ?_) ?_ hnl ?_)
    · rw [upd_ne q1]; exact hup _ _ (hrest _ _ q1 q2)
    · refine hnone l ?_
      cases q : ld l with
      | none => rfl
      | some o => rw [upd_tmp hsz (upd_tmp hd5' (hfk' _ _ q))] at hl0; cases hl0
    · exact { inst := by rw [upd_ne hcl]; exact hup _ _ (hrest _ _ hcl hc), dict := ⟨_, _, _, _, _, _, _, upd_self⟩, list := ⟨vs', n', by rw [upd_ne hlcd', upd_self], hi7⟩ }
  rcases hpos with ⟨rfl, rfl, rfl⟩ | rfl
  · refine enterC (n := 0) (binds := [("self", .ref c), ("lits", .ref lw), ("learned", .bool false), ("rule", .none)]) C hB r rfl rfl rfl (binds_K hX rfl rfl rfl rfl rfl) rfl rfl rfl rfl rfl rfl rfl rfl ?_
    intro A' env L h₁ tk r' e z
    exact go A' env L h₁ tk _ _ _ rfl rfl r' e z rfl rfl rfl rfl
  · refine enterC (n := 0) (binds := [("self", .ref c), ("lits", .ref lw), ("learned", v1), ("rule", v2)]) C hB r rfl rfl rfl (binds_K hX rfl rfl rfl rfl rfl) rfl rfl rfl rfl rfl rfl rfl rfl ?_
    intro A' env L h₁ tk r' e z
    exact go A' env L h₁ tk _ _ _ rfl rfl r' e z rfl rfl rfl rfl
end
end Mine

namespace Mine
section
variable {prog : Program} {w : World} {A : Around} {E : Value → Shared → Prop} {s : Shared}
abbrev noSet (w : World) : Obj := setObj #[] 0 (.fresh 0 0 (!(w.params.followText "set-order")))
theorem code_set_mine {Q₁ : Value → Shared → Prop} (h : Q₁ (.ref s.heap.objs.size) { s with heap := s.heap.push (noSet w) }) :
    codeAny (model prog w) A (.call (.builtin "set.__new__") ⟨[.type "set"], []⟩) (wants Q₁ E) s := by
  refine codeAny_call_builtin F.plain_set_new F.entry_set_new (wpAny_of_eq F.newCall_set_0 ?_)
  unfold Builtin.«set.__new__» Builtin.Frozenset.newClass
  have hsub := sub_set_self
  obtain ⟨hp, g, d, tk, os⟩ := s
  dsimp only
  wp_walk
  refine wpAny_askSetting (wpAny_pure ?_)
  dsimp only
  simp only [newObj]
  refine wpAny_bind (wpAny_alloc (wpAny_pure ?_))
  exact wpAny_pure h
set_option maxHeartbeats 1000000 in
theorem call_set_mine {Q : Value → Shared → Prop} (h : Q (.ref s.heap.objs.size) { s with heap := s.heap.push (noSet w) }) : wpAny (model prog w) A (call (.type "set") []) Q E s := by
  obtain ⟨c, tl, hmro⟩ := F.called_set.mro
  have hmade := F.called_set.made
  have hsub := F.called_set.sub
  have h1 := F.called_set.notType
  have h2 := F.called_set.canCreate
  have hct := F.typeCall_set_0
  refine wpAny_call (codeAny_of_tree ?_)
  show wpAny _ _ (callAny (.type "set") _) _ _ _
  refine wpAny_pure ⟨Code.quiet_builtin _ (by decide +kernel), codeAny_builtin F.entry_type_call ?_⟩
  rw [Around.under_plain (weight_type_call_type "set" [] []) rfl]
  repeat (any_goals (first | assumption | wp_step))
  refine codeAny_mono (code_set_mine (E := E) (Q₁ := fun v s₁ => v = .ref s.heap.objs.size ∧ s₁ = { s with heap := s.heap.push (noSet w) }) ⟨rfl, rfl⟩) fun r s₁ hr => ?_
  have hT : Shared.TypeIs { s with heap := s.heap.push (noSet w) } (.ref s.heap.objs.size) "set" := ⟨_, Heap.get?_push_size _ rfl, rfl⟩
  have hli := F.called_set.init.lookup
  have hbi := F.called_set.init.bind (.ref s.heap.objs.size)
  match r, hr with
  | .error e, hr => exact hr
  | .ok (.ret v), hr =>
    obtain ⟨rfl, rfl⟩ := hr
    repeat (any_goals (first | assumption | wp_step))
    refine codeAny_mono (codeAny_call_builtin (R := wants (fun r s₂ => r = .none ∧ Q (.ref s.heap.objs.size) s₂) E) F.called_set.init.plain F.entry_set_init (check_set_init hT ?_)) fun r₂ s₂ hr₂ => ?_
    · unfold Builtin.«set.__init__» noKeywords
      wp_walk
      exact ⟨rfl, h⟩
    · match r₂, hr₂ with
      | .error e, hr₂ => exact hr₂
      | .ok (.ret r), hr₂ =>
        obtain ⟨rfl, hq⟩ := hr₂
        repeat (any_goals (first | assumption | wp_step))
      | .ok .next, hr₂ => exact hr₂.elim
      | .ok .brk, hr₂ => exact hr₂.elim
      | .ok .cont, hr₂ => exact hr₂.elim
  | .ok .next, hr => exact hr.elim
  | .ok .brk, hr => exact hr.elim
  | .ok .cont, hr => exact hr.elim
end
end Mine

namespace Mine

section
variable {prog : Program} {w : World} {A : Around} {E : Value → Shared → Prop} {s : Shared} {K : Frag} {mg mb : Str → Option Value} {b : Heap} {L : Addr} {m : Str → Option Value} {ld : Ld} {env : Env} {sc : Scope}

theorem ev_or2 {x y : Expr} {pos : Pos} {Q : Value → Shared → Prop}
    (h : wpAny (model prog w) A (eval x env) (fun v s₁ => wpAny (model prog w) A (truthy v) (fun t s₂ => if t then Q v s₂ else wpAny (model prog w) A (eval y env) Q E s₂) E s₁) E s) : wpAny (model prog w) A (eval (.BoolOp .Or [x, y] pos) env) Q E s := by
  show wpAny _ _ (do
    let v ← eval x env
    standAt pos
    let t ← holding [v] (truthy v)
    match BoolOp.Or, t with
    | .And, false | .Or, true => pure v
    | _, _ => boolOp pos .Or [eval y env]) Q E s
  refine wpAny_bind (wpAny_mono h (fun v s₁ h₁ => wpAny_bind (wpAny_standAt (wpAny_bind (wpAny_holding (wpAny_mono h₁ (fun t s₂ h₂ => ?_) fun _ _ x => x))))) fun _ _ x => x)
  cases t with
  | true => exact wpAny_pure h₂
  | false => exact h₂
theorem ev_and {x y : Expr} {rest : List Expr} {pos : Pos} {Q : Value → Shared → Prop}
    (h : wpAny (model prog w) A (eval x env) (fun v s₁ => wpAny (model prog w) A (truthy v) (fun t s₂ => if t then wpAny (model prog w) A (eval (.BoolOp .And (y :: rest) pos) env) Q E s₂ else Q v s₂) E s₁) E s) : wpAny (model prog w) A (eval (.BoolOp .And (x :: y :: rest) pos) env) Q E s := by
  show wpAny _ _ (do
    let v ← eval x env
    standAt pos
    let t ← holding [v] (truthy v)
    match BoolOp.And, t with
    | .And, false | .Or, true => pure v
    | _, _ => boolOp pos .And (eval y env :: evalEach rest env)) Q E s
  refine wpAny_bind (wpAny_mono h (fun v s₁ h₁ => wpAny_bind (wpAny_standAt (wpAny_bind (wpAny_holding (wpAny_mono h₁ (fun t s₂ h₂ => ?_) fun _ _ x => x))))) fun _ _ x => x)
  cases t with
  | false => exact wpAny_pure h₂
  | true => exact h₂
theorem ev_and1 {x : Expr} {pos : Pos} {Q : Value → Shared → Prop} (h : wpAny (model prog w) A (eval x env) Q E s) : wpAny (model prog w) A (eval (.BoolOp .And [x] pos) env) Q E s := h

theorem call_set0 {Q : Value → Shared → Prop} (z : Z b L m ld s.heap)
    (h : ∀ h', Z b L m (upd ld s.heap.objs.size (noSet w)) h' → Q (.ref s.heap.objs.size) { s with heap := h' }) : wpAny (model prog w) A (call (.type "set") []) Q E s :=
  call_set_mine (h _ (z.push (noSet w)))

theorem ev_dict0 {pos : Pos} {Q : Value → Shared → Prop} (z : Z b L m ld s.heap)
    (h : ∀ h', Z b L m (upd ld s.heap.objs.size (dictOf [] 0)) h' → Q (.ref s.heap.objs.size) { s with heap := h' }) : wpAny (model prog w) A (eval (.Dict [] [] pos) env) Q E s :=
  wpAny_Dict_empty (h _ (z.push (dictOf [] 0)))

/-- for k, v in ({}).items() -/
theorem iter_items0 {Q : Flow → Shared → Prop} {target : Expr} {body : List Stmt} {v d : Addr} {ep : Nat} {mm : Nat} (r : Room A mm)
    (z : Z b L m ld s.heap) (hv : ld v = some { cls := .type "dict_items", data := .fields #[.ref d] }) (hd : ld d = some (dictOf [] ep))
    (h : ∀ h' tk, Z b L m ld h' → Q .next { s with heap := h', toks := tk }) :
    wpAny (model prog w) A (pyIter (.ref v)) (fun it s₂ => codeAny (model prog w) A (.forLoop target it body [] env) (fun r s' => match r with | .ok f => Q f s' | .error e => cameBackBy (model prog w) A env (fun _ _ => False) e s') s₂) (fun _ _ => False) s := by
  have hD : s.heap.DictAt (intKind prog w) d [] ep := ⟨_, #[], z.led _ _ hd, ⟨rfl, rfl, rfl⟩, rfl, (fun _ h => by simp at h), by first | exact .nil | trivial, .nil⟩
  refine wpAny_pyIter_items (knd := intKind prog w) ⟨_, z.led _ _ hv, rfl, rfl⟩ hD ?_
  have hI : (s.heap.push { cls := .type "dict_itemiterator", data := .fields #[.none, .bool false, .ref d, .int 0 0, .int ([] : List (Int × Value)).length 0, .int ep 0, .none, .none] }).get? s.heap.objs.size = some { cls := .type "dict_itemiterator", data := .fields #[.none, .bool false, .ref d, .int 0 0, .int ([] : List (Int × Value)).length 0, .int ep 0, .none, .none] } := Heap.get?_push_size _ rfl
  refine codeAny_forLoop_any (fun k s' => s' = { s with heap := s.heap.push { cls := .type "dict_itemiterator", data := .fields #[.none, .bool false, .ref d, .int 0 0, .int ([] : List (Int × Value)).length 0, .int ep 0, .none, .none] } }) ?_ 0 rfl
  rintro k s' rfl
  refine wpAny_pyNext_items_end (knd := intKind prog w) (i := 0) (kvs := []) (ep := ep) (d := d) (ok := .none) (ov := .none) r.handled hI (hD.push _) rfl fun h' he => wpAny_execs_nil ?_
  exact h h' _ (z.ext fun c o q => he c o (ne_of_lt1 (Heap.lt_size q)) (Heap.get?_push_of_some _ q))

theorem dm_items {d : Addr} {o : Obj} {kvs : List (Int × Value)} {pl : Sem Bool} {Q : Value × List Value → Shared → Prop} (z : Z b L m ld s.heap) (hd : ld d = some o) (hk : o.IsDictOf (intKind prog w) kvs) (h : Q (.builtin "dict.items", [.ref d]) s) :
    wpAny (model prog w) A (getMethod (.ref d) "items" pl) Q E s :=
  getMethod_builtin (dictAt z hd hk).typeIs PySem.F.plainAttrs_dict PySem.F.slot_dict_items PySem.F.type_dict_items (dictAt z hd hk).mapOf.noDict h
theorem d_items {d : Addr} {o : Obj} {kvs : List (Int × Value)} {Q : Value → Shared → Prop} (C : Cx K mg mb b) (z : Z b L m ld s.heap) (hd : ld d = some o) (hn : New b d) (hk : o.IsDictOf (intKind prog w) kvs)
    (h : Q (.ref s.heap.objs.size) { s with heap := s.heap.push { cls := .type "dict_items", data := .fields #[.ref d] } }) : wpAny (model prog w) A (call (.builtin "dict.items") [.ref d]) Q E s :=
  call_meetsIn PySem.F.slot_dict_items (dictAt z hd hk).typeIs PySem.F.entry_dict_items (PySem.F.args_dict_items_1 _) (meets_dict_items (intKind prog w) d (C.notSys hn)) ⟨⟨_, dictAt z hd hk⟩, h⟩
theorem isDict_nil {n : Nat} : (dictOf [] n).IsDictOf (intKind prog w) [] := ⟨#[], n, ⟨rfl, rfl, rfl⟩, rfl, (fun _ h => by simp at h), by first | exact .nil | trivial, .nil⟩
theorem cw_type0 {T : String} {pos : Pos} {Q : Value → Shared → Prop} (h : wpAny (model prog w) A (call (.type T) []) Q E s) : wpAny (model prog w) A (callWith pos (.type T) [] (backTo pos (starEach [] env)) []) Q E s :=
  PySem.callWith_type rfl (evalArgs_nil3 h)
end
end Mine

namespace Mine

section
variable {w : World} {A : Around} {E : Value → Shared → Prop} {s : Shared} {mg mb : Str → Option Value} {b : Heap}

theorem mkClause_spec {lw : Addr} {v1 v2 : Value} {pos : List Value} {vs : List Value} {ns : List Int} {n : Nat} {Q : Value → Shared → Prop}
    (C : Cx (KK w) mg mb b) (hB : Bs b s.heap) (r : Room A 2) (hl : s.heap.get? lw = some (listOf vs.toArray n)) (hi : IntsAre vs ns) (hns : ns.length ≤ 1000)
    (hpos : pos = [.ref lw] ∧ v1 = .bool false ∧ v2 = .none ∨ pos = [.ref lw, v1, v2]) (hv1 : handedIn v1 = true) (hv2 : handedIn v2 = true)
    (h : ∀ h' tk ld' c cd l, Led ld' h' → (∀ x o, s.heap.get? x = some o → ld' x = some o) → s.heap.get? c = none → s.heap.get? cd = none → s.heap.get? l = none → New b c → New b cd → New b l → Cl ld' c cd l v1 v2 (dedup ns) → Q (.ref c) { s with heap := h', toks := tk }) :
    wpAny (model PP w) A (call (.ref 94) pos) Q E s := by
  refine make_inst (n := 1) C hB r rfl rfl rfl fun A' x dx h' r' hx hdx hne hnx hndx hB' led => ?_
  have hrest : ∀ c o, s.heap.get? c = some o → h'.get? c = some o := fun c o q => led c o (by
    rw [upd_ne (fun e => by rw [e, hx] at q; cases q), upd_ne (fun e => by rw [e, hdx] at q; cases q)]; exact q)
  have hcx : h'.get? x = some (instObj 94 dx) := led _ _ upd_self
  have hcd : h'.get? dx = some (dictOf [] 0) := led _ _ (by rw [upd_ne hne.symm, upd_self])
  refine clinit_spec (v1 := v1) (v2 := v2) C hB' r' hcx hcd hndx (hrest _ _ hl) hi hns ?_ hv1 hv2 fun h₂ tk ld' l led' hk hl0 hnl hcl => ?_
  · rcases hpos with ⟨rfl, q⟩ | rfl
    · exact .inl ⟨rfl, q⟩
    · exact .inr rfl
  · refine ⟨rfl, h h₂ tk ld' x dx l led' (fun c o q => hk c o (fun e => by rw [e, hdx] at q; cases q) (hrest c o q)) hx hdx ?_ hnx hndx hnl hcl⟩
    cases q : s.heap.get? l with
    | none => rfl
    | some o => exact absurd ((hrest _ _ q).symm.trans hl0) (by simp)

/-- an object under way: its attributes so far, the objects made for them -/
structure Stg (h₀ b : Heap) (L : Addr) (m : Loc) (a ad : Addr) (es : List DictEntry) (n : Nat) (xs : List (Addr × Obj)) (ld : Ld) (h : Heap) : Prop where
  z : Z b L m ld h
  ia : ld a = some (instObj 254 ad)
  id : ld ad = some (dictOf es n)
  rest : ∀ x o, x ≠ ad → h₀.get? x = some o → ld x = some o
  ob : ∀ p ∈ xs, ld p.1 = some p.2 ∧ h₀.get? p.1 = none ∧ New b p.1 ∧ p.1 ≠ ad
  nd : (xs.map (·.1)).Nodup
theorem Stg.alloc {h₀ b : Heap} {L : Addr} {m : Loc} {a ad x : Addr} {es : List DictEntry} {n : Nat} {xs : List (Addr × Obj)} {ld : Ld} {h h' : Heap} {o : Obj} (S : Stg h₀ b L m a ad es n xs ld h) (hx : x = h.objs.size) (h0 : h₀.get? ad ≠ none) (z' : Z b L m (upd ld x o) h') :
    Stg h₀ b L m a ad es n ((x, o) :: xs) (upd ld x o) h' := by
  subst hx
  have hn := S.z.size_none
  have hne : h.objs.size ≠ ad := fun q => by rw [q, S.id] at hn; cases hn
  refine ⟨z', upd_tmp hn S.ia, upd_tmp hn S.id, fun y oy q1 q2 => upd_tmp hn (S.rest y oy q1 q2), fun p hp => ?_, List.nodup_cons.mpr ⟨fun q => ?_, S.nd⟩⟩
  · rcases List.mem_cons.mp hp with rfl | hp
    · refine ⟨upd_self, ?_, S.z.bs.size, hne⟩
      cases q : h₀.get? h.objs.size with
      | none => rfl
      | some oy => have := S.rest _ _ hne q; rw [hn] at this; cases this
    · obtain ⟨h1, h2, h3, h4⟩ := S.ob p hp
      exact ⟨upd_tmp hn h1, h2, h3, h4⟩
  · obtain ⟨p, hp, e⟩ := List.mem_map.mp q
    have := (S.ob p hp).1
    rw [e, hn] at this; cases this
theorem Stg.attr {h₀ b : Heap} {L : Addr} {m : Loc} {a ad : Addr} {es es' : List DictEntry} {n n' : Nat} {xs : List (Addr × Obj)} {ld : Ld} {h h' : Heap} (S : Stg h₀ b L m a ad es n xs ld h) (z' : Z b L m (upd ld ad (dictOf es' n')) h') :
    Stg h₀ b L m a ad es' n' xs (upd ld ad (dictOf es' n')) h' :=
  ⟨z', by rw [upd_ne (ne_of_cls S.ia S.id (by simp))]; exact S.ia, upd_self, fun y oy q1 q2 => by rw [upd_ne q1]; exact S.rest y oy q1 q2, fun p hp => by
    obtain ⟨h1, h2, h3, h4⟩ := S.ob p hp
    exact ⟨by rw [upd_ne h4]; exact h1, h2, h3, h4⟩, S.nd⟩

set_option maxHeartbeats 4000000 in
theorem asinit_spec {a ad : Addr} {R : Result → Shared → Prop}
    (C : Cx (KK w) mg mb b) (hB : Bs b s.heap) (r : Room A 1) (ha : s.heap.get? a = some (instObj 254 ad)) (had : s.heap.get? ad = some (dictOf [] 0)) (hnad : New b ad)
    (h : ∀ h' tk ld' p, Led ld' h' → p.a = a → p.ad = ad → p.Ok b → (∀ x o, x ≠ ad → s.heap.get? x = some o → ld' x = some o) → (∀ x ∈ [p.x1, p.x2, p.x3, p.x4, p.x5], s.heap.get? x = none) → AS PP w ld' p (fun _ => none) [] [] → R (.ok (.ret .none)) { s with heap := h', toks := tk }) :
    codeAny (model PP w) A (.call (.ref 111) ⟨[.ref a], []⟩) R s := by
  have hX := C.X.keeps hB.stays
  have haa : a ≠ ad := ne_of_cls ha had (by simp)
  refine enterC (n := 0) (binds := [("self", .ref a), ("assignments", .none)]) C hB r rfl rfl rfl (binds_K hX rfl rfl rfl rfl rfl) rfl rfl rfl rfl rfl rfl rfl rfl ?_
  intro A' env L h₁ tk r' e z
  dsimp only at e
  have h0 : s.heap.get? ad ≠ none := by rw [had]; simp
  have S : Stg s.heap b L _ a ad [] 0 [] s.heap.get? h₁ := ⟨z, ha, had, fun _ _ _ q => q, fun _ h => (nomatch h), .nil⟩
  -- self._data = {}
  refine wpAny_execs_cons (plainObj_wpAny_Assign_Attribute (ev_dict0 z fun h₂ z => ev_loc e z rfl ?_))
  have S := S.alloc rfl h0 z
  refine sa_own (es' := fun t1 => [⟨PyData.keyHash w.params "_data", .str "_data" t1, .ref h₁.objs.size⟩]) (n' := 1) C z S.ia S.id hnad rfl rfl rfl rfl rfl (fun _ => rfl) (fun _ => by show 1 ≤ 1000; decide) fun h₃ t1 tk₃ z => ?_
  have S := S.attr z
  generalize h₁.objs.size = x1 at S z
  dsimp only
  -- self._orig = {}
  refine wpAny_execs_cons (plainObj_wpAny_Assign_Attribute (ev_dict0 z fun h₄ z => ev_loc e z rfl ?_))
  have S := S.alloc rfl h0 z
  refine sa_own (es' := fun t2 => [⟨PyData.keyHash w.params "_data", .str "_data" t1, .ref x1⟩, ⟨PyData.keyHash w.params "_orig", .str "_orig" t2, .ref h₃.objs.size⟩]) (n' := 2) C z S.ia S.id hnad rfl rfl rfl rfl rfl (fun _ => rfl) (fun _ => by show 2 ≤ 1000; decide) fun h₅ t2 tk₅ z => ?_
  have S := S.attr z
  generalize h₃.objs.size = x2 at S z
  dsimp only
  -- self._seen = set()
  refine wpAny_execs_cons (plainObj_wpAny_Assign_Attribute (Call_ (ev_bi e C z rfl PyProof.Rows.boot_set (cw_type0 (call_set0 z fun h₆ z => ev_loc e z rfl ?_)))))
  have S := S.alloc rfl h0 z
  refine sa_own (es' := fun t3 => [⟨PyData.keyHash w.params "_data", .str "_data" t1, .ref x1⟩, ⟨PyData.keyHash w.params "_orig", .str "_orig" t2, .ref x2⟩, ⟨PyData.keyHash w.params "_seen", .str "_seen" t3, .ref h₅.objs.size⟩]) (n' := 3) C z S.ia S.id hnad rfl rfl rfl rfl rfl (fun _ => rfl) (fun _ => by show 3 ≤ 1000; decide) fun h₇ t3 tk₇ z => ?_
  have S := S.attr z
  generalize h₅.objs.size = x3 at S z
  dsimp only
  -- self._cached_changelog = None
  refine wpAny_execs_cons (plainObj_wpAny_Assign_Attribute (wpAny_Constant_none (ev_loc e z rfl ?_)))
  refine sa_own (es' := fun t4 => [⟨PyData.keyHash w.params "_data", .str "_data" t1, .ref x1⟩, ⟨PyData.keyHash w.params "_orig", .str "_orig" t2, .ref x2⟩, ⟨PyData.keyHash w.params "_seen", .str "_seen" t3, .ref x3⟩, ⟨PyData.keyHash w.params "_cached_changelog", .str "_cached_changelog" t4, .none⟩]) (n' := 4) C z S.ia S.id hnad rfl rfl rfl rfl rfl (fun _ => rfl) (fun _ => by show 4 ≤ 1000; decide) fun h₈ t4 tk₈ z => ?_
  have S := S.attr z
  dsimp only
  -- self._assigned_ids = set()
  refine wpAny_execs_cons (plainObj_wpAny_Assign_Attribute (Call_ (ev_bi e C z rfl PyProof.Rows.boot_set (cw_type0 (call_set0 z fun h₉ z => ev_loc e z rfl ?_)))))
  have S := S.alloc rfl h0 z
  refine sa_own (es' := fun t5 => [⟨PyData.keyHash w.params "_data", .str "_data" t1, .ref x1⟩, ⟨PyData.keyHash w.params "_orig", .str "_orig" t2, .ref x2⟩, ⟨PyData.keyHash w.params "_seen", .str "_seen" t3, .ref x3⟩, ⟨PyData.keyHash w.params "_cached_changelog", .str "_cached_changelog" t4, .none⟩, ⟨PyData.keyHash w.params "_assigned_ids", .str "_assigned_ids" t5, .ref h₈.objs.size⟩]) (n' := 5) C z S.ia S.id hnad rfl rfl rfl rfl rfl (fun _ => rfl) (fun _ => by show 5 ≤ 1000; decide) fun h₁₀ t5 tk₁₀ z => ?_
  have S := S.attr z
  generalize h₈.objs.size = x4 at S z
  dsimp only
  -- self.new_keys = set()
  refine wpAny_execs_cons (plainObj_wpAny_Assign_Attribute (Call_ (ev_bi e C z rfl PyProof.Rows.boot_set (cw_type0 (call_set0 z fun h₁₁ z => ev_loc e z rfl ?_)))))
  have S := S.alloc rfl h0 z
  refine sa_own (es' := fun t6 => asEs (PyData.keyHash w.params "_data") (PyData.keyHash w.params "_orig") (PyData.keyHash w.params "_seen") (PyData.keyHash w.params "_cached_changelog") (PyData.keyHash w.params "_assigned_ids") (PyData.keyHash w.params "new_keys") t1 t2 t3 t4 t5 t6 x1 x2 x3 x4 h₁₀.objs.size) (n' := 6) C z S.ia S.id hnad rfl rfl rfl rfl rfl (fun _ => rfl) (fun _ => by show 6 ≤ 1000; decide) fun h₁₂ t6 tk₁₂ z => ?_
  have S := S.attr z
  generalize h₁₀.objs.size = x5 at S z
  dsimp only
  -- for k, v in (assignments or {}).items()
  refine wpAny_execs_cons (wpAny_For (MethodCall_ (ev_or2 (ev_loc e z rfl (truthy_none ?_)))) (by intro _; rfl))
  rw [if_neg (by simp)]
  refine ev_dict0 z fun h₁₃ z => dm_items z upd_self isDict_nil (callWith_method0 (d_items C z upd_self S.z.bs.size isDict_nil ?_))
  have z' := z.push { cls := .type "dict_items", data := .fields #[.ref h₁₂.objs.size] }
  refine iter_items0 r' z' upd_self (upd_tmp z.size_none upd_self) fun h₁₄ tk₁₄ z'' => wpAny_execs_nil ?_
  have hled := z''.led
  have hd := S.z.size_none
  have up : ∀ x o, _ → _ := fun x o q => upd_tmp (o := { cls := .type "dict_items", data := .fields #[.ref h₁₂.objs.size] }) z.size_none (upd_tmp (c := x) (oc := o) hd q)
  obtain ⟨b5, c5, d5, e5⟩ := S.ob (x5, _) (.head _)
  obtain ⟨b4, c4, d4, e4⟩ := S.ob (x4, _) (.tail _ (.head _))
  obtain ⟨b3, c3, d3, e3⟩ := S.ob (x3, _) (.tail _ (.tail _ (.head _)))
  obtain ⟨b2, c2, d2, e2⟩ := S.ob (x2, _) (.tail _ (.tail _ (.tail _ (.head _))))
  obtain ⟨b1, c1, d1, e1⟩ := S.ob (x1, _) (.tail _ (.tail _ (.tail _ (.tail _ (.head _)))))
  have nd := S.nd
  simp only [List.map_cons, List.map_nil, List.nodup_cons, List.mem_cons, List.not_mem_nil, or_false, not_or, List.nodup_nil, and_true] at nd
  refine h h₁₄ tk₁₄ _ ⟨a, ad, x1, x2, x3, x4, x5⟩ hled rfl rfl ⟨hnad, d1, d2, d3, d4, d5, e1.symm, e2.symm, ?_, ?_, ?_, ?_⟩ (fun x o q1 q2 => up _ _ (S.rest x o q1 q2)) ?_ ?_
  · exact fun q => nd.2.2.2.1 q.symm
  · exact fun q => nd.2.1.1 q.symm
  · exact fun q => nd.1.2.1 q.symm
  · exact fun q => nd.1.1 q.symm
  · intro x hx
    simp only [List.mem_cons, List.not_mem_nil, or_false] at hx
    rcases hx with rfl | rfl | rfl | rfl | rfl <;> assumption
  · exact {
      inst := up _ _ S.ia
      dict := ⟨_, _, _, _, _, _, _, _, _, _, _, _, _, up _ _ S.id⟩
      data := ⟨_, [], up _ _ b1, isDict_nil, fun _ => rfl, fun _ _ q => (nomatch q)⟩
      orig := ⟨_, [], up _ _ b2, isDict_nil, fun _ _ q => (nomatch q), fun _ _ q => (nomatch q)⟩
      seen := ⟨_, up _ _ b3, SetK.fresh w, fun _ q => (nomatch q)⟩
      asg := ⟨_, up _ _ b4, SetK.fresh w, fun _ q => (nomatch q)⟩
      nk := ⟨_, [], up _ _ b5, SetK.fresh w, fun _ q => (nomatch q)⟩ }

theorem mkASet_spec {Q : Value → Shared → Prop} (C : Cx (KK w) mg mb b) (hB : Bs b s.heap) (r : Room A 2)
    (h : ∀ h' tk ld' p, Led ld' h' → p.Ok b → New b p.a → (∀ x o, s.heap.get? x = some o → ld' x = some o) → (∀ x ∈ p.a :: p.W, s.heap.get? x = none) → AS PP w ld' p (fun _ => none) [] [] → Q (.ref p.a) { s with heap := h', toks := tk }) :
    wpAny (model PP w) A (call (.ref 254) []) Q E s := by
  refine make_inst (n := 1) C hB r rfl rfl rfl fun A' x dx h' r' hx hdx hne hnx hndx hB' led => ?_
  have hrest : ∀ c o, s.heap.get? c = some o → h'.get? c = some o := fun c o q => led c o (by
    rw [upd_ne (fun e => by rw [e, hx] at q; cases q), upd_ne (fun e => by rw [e, hdx] at q; cases q)]; exact q)
  refine asinit_spec C hB' r' (led _ _ upd_self) (led _ _ (by rw [upd_ne hne.symm, upd_self])) hndx fun h₂ tk ld' p led' hpa hpd hok hk hnone S => ?_
  subst hpa hpd
  refine ⟨rfl, h h₂ tk ld' p led' hok hnx (fun c o q => hk c o (fun e => by rw [e, hdx] at q; cases q) (hrest c o q)) (fun c hc => ?_) S⟩
  have h1 : ∀ c ∈ [p.x1, p.x2, p.x3, p.x4, p.x5], s.heap.get? c = none := fun c hc => by
    cases q : s.heap.get? c with
    | none => rfl
    | some o => exact absurd ((hrest _ _ q).symm.trans (hnone c hc)) (by simp)
  rcases List.mem_cons.mp hc with rfl | hc
  · exact hx
  · rcases List.mem_cons.mp hc with rfl | hc
    · exact hdx
    · exact h1 c hc
end
end Mine

namespace Mine

/-- the other watched wish -/
def rwOther (x y won : Int) : Int := if x = -won then y else x

theorem rwSwap_eq {x y won : Int} {rest : List Int} (hin : -won ∈ (x :: y :: rest).take 2) : rwSwap (x :: y :: rest) won = rwOther x y won :: -won :: rest := by
  rw [rwSwap_two]
  unfold rwOther
  split
  · rfl
  · rename_i hq
    simp only [List.take_succ_cons, List.take_zero, List.mem_cons, List.not_mem_nil, or_false] at hin
    rw [hin.resolve_left fun q => hq q.symm]

theorem rwAfter_eq {f : Int → Option Bool} {x y won : Int} {rest : List Int} (hin : -won ∈ (x :: y :: rest).take 2) :
    rwAfter f (x :: y :: rest) won = if f (rwOther x y won) = some true then rwOther x y won :: -won :: rest else match rwPick f rest 0 with
      | some (n, c) => rwOther x y won :: c :: rest.set n (-won)
      | none => rwOther x y won :: -won :: rest := by
  unfold rwAfter; rw [rwSwap_eq hin]; rfl
theorem rwTold_eq {f : Int → Option Bool} {x y won : Int} {rest : List Int} (hin : -won ∈ (x :: y :: rest).take 2) :
    rwTold f (x :: y :: rest) won = if f (rwOther x y won) = some true then none else match rwPick f rest 0 with
      | some _ => none
      | none => some (rwOther x y won) := by
  unfold rwTold; rw [rwSwap_eq hin]; rfl

theorem rwPick_some {f : Int → Option Bool} : ∀ {rest : List Int} {i n : Nat} {c : Int}, rwPick f rest i = some (n, c) → i ≤ n ∧ rest[n - i]? = some c ∧ f c ≠ some false
  | [], _, _, _, h => by cases h
  | d :: r, i, n, c, h => by
    unfold rwPick at h
    split at h
    · obtain ⟨h1, h2, h3⟩ := rwPick_some h
      refine ⟨by omega, ?_, h3⟩
      rw [show n - i = (n - (i + 1)) + 1 by omega]; exact h2
    · cases h; exact ⟨Nat.le_refl _, by simp, by assumption⟩
theorem rwPick_none {f : Int → Option Bool} : ∀ {rest : List Int} {i : Nat}, rwPick f rest i = none → ∀ c ∈ rest, f c = some false
  | [], _, _, _, hc => by simp at hc
  | d :: r, i, h, c, hc => by
    unfold rwPick at h
    split at h
    · rcases List.mem_cons.mp hc with rfl | hc
      · assumption
      · exact rwPick_none h c hc
    · cases h

theorem perm_set : ∀ {rest : List Int} {n : Nat} {c a : Int}, rest[n]? = some c → (c :: rest.set n a).Perm (a :: rest)
  | [], _, _, _, h => by simp at h
  | d :: r, 0, c, a, h => by cases h; exact .swap _ _ _
  | d :: r, n + 1, c, a, h => by
    have ih := perm_set (rest := r) (n := n) (a := a) h
    exact ((List.Perm.swap d c _).trans (ih.cons d)).trans (.swap _ _ _)

theorem other_perm {x y won : Int} {rest : List Int} (hin : -won ∈ (x :: y :: rest).take 2) : (rwOther x y won :: -won :: rest).Perm (x :: y :: rest) := by
  unfold rwOther
  simp only [List.take_succ_cons, List.take_zero, List.mem_cons, List.not_mem_nil, or_false] at hin
  split
  · rename_i h; rw [← h]; exact .swap _ _ _
  · rename_i h; rw [hin.resolve_left fun q => h q.symm]

theorem rwAfter_perm {f : Int → Option Bool} {x y won : Int} {rest : List Int} (hin : -won ∈ (x :: y :: rest).take 2) : (rwAfter f (x :: y :: rest) won).Perm (x :: y :: rest) := by
  rw [rwAfter_eq hin]
  split
  · exact other_perm hin
  · split
    · rename_i n c hp
      obtain ⟨_, h2, _⟩ := rwPick_some hp
      exact ((perm_set (by simpa using h2)).cons _).trans (other_perm hin)
    · exact other_perm hin

/-- after a move: its shape -/
theorem rwAfter_shape {f : Int → Option Bool} {x y won : Int} {rest : List Int} (hin : -won ∈ (x :: y :: rest).take 2) :
    (f (rwOther x y won) = some true ∧ rwAfter f (x :: y :: rest) won = rwOther x y won :: -won :: rest ∧ rwTold f (x :: y :: rest) won = none) ∨
    (f (rwOther x y won) ≠ some true ∧ ∃ n c, rest[n]? = some c ∧ f c ≠ some false ∧ rwAfter f (x :: y :: rest) won = rwOther x y won :: c :: rest.set n (-won) ∧ rwTold f (x :: y :: rest) won = none) ∨
    (f (rwOther x y won) ≠ some true ∧ (∀ c ∈ rest, f c = some false) ∧ rwAfter f (x :: y :: rest) won = rwOther x y won :: -won :: rest ∧ rwTold f (x :: y :: rest) won = some (rwOther x y won)) := by
  rw [rwAfter_eq hin, rwTold_eq hin]
  by_cases h : f (rwOther x y won) = some true
  · rw [if_pos h, if_pos h]; exact .inl ⟨h, rfl, rfl⟩
  · rw [if_neg h, if_neg h]
    cases hp : rwPick f rest 0 with
    | some q =>
      obtain ⟨n, c⟩ := q
      obtain ⟨_, h2, h3⟩ := rwPick_some hp
      exact .inr (.inl ⟨h, n, c, by simpa using h2, h3, rfl, rfl⟩)
    | none => exact .inr (.inr ⟨h, rwPick_none hp, rfl, rfl⟩)
end Mine

namespace Mine

def CellIs (ld : Ld) (c : Addr) (v : Option Value) : Prop := ∃ o, ld c = some o ∧ o.data = .cell v

def closL (cells : List (Str × Addr)) : List (Str × NameKind) → List (Str × Addr) → Option (List (Str × Addr))
  | [], acc => some acc
  | (n, k) :: r, acc => if k == .free then (match cells.lookup n with | some c => closL cells r ((n, c) :: acc) | none => none) else closL cells r acc

theorem closureFor_of {scope : Scope} {env : Env} {cl cells : List (Str × Addr)} (hc : env.cells = cells) (h : closL cells scope.names [] = some cl) : closureFor scope env = pure cl := by
  subst hc
  simp only [closureFor]
  suffices ∀ (names : List (Str × NameKind)) acc cl', closL env.cells names acc = some cl' →
      (forIn names acc (fun x r => match x with | (name, kind) => if (kind == NameKind.free) = true then do let c ← cellOf env name; pure (ForInStep.yield ((name, c) :: r)) else pure (ForInStep.yield r)) : Sem (List (Str × Addr))) = pure cl' by
    exact (congrArg (fun t : Sem (List (Str × Addr)) => t >>= pure) (this _ _ _ h)).trans rfl
  intro names
  induction names with
  | nil => intro acc cl' h; cases h; rfl
  | cons p r ih =>
    obtain ⟨n, k⟩ := p
    intro acc cl' h
    rw [List.forIn_cons]
    unfold closL at h
    by_cases hk : (k == NameKind.free) = true
    · simp only [hk, if_true] at h ⊢
      cases hl : env.cells.lookup n with
      | none => rw [hl] at h; cases h
      | some c =>
        rw [hl] at h
        have : cellOf env n = pure c := by unfold cellOf; rw [hl]
        rw [this]
        exact ih _ _ h
    · simp only [hk, if_false] at h ⊢
      exact ih _ _ h

abbrev kin (sc : Scope) : Str → Option NameKind := fun x => sc.names.lookup x
def relab (scope sc : Scope) : Scope := relabel scope { scope := sc, locals := 0, globals := 0, cells := [] }

section
variable {prog : Program} {w : World} {A : Around} {E : Value → Shared → Prop} {s : Shared} {K : Frag} {mg mb : Str → Option Value} {b : Heap} {L : Addr} {m : Str → Option Value} {ld : Ld} {env : Env} {sc : Scope}

theorem EnvIs.relab (e : EnvIs env sc L) (scope : Scope) : relabel scope env = relab scope sc := by
  unfold Mine.relab relabel Env.kindOf; rw [e.scope]
theorem EnvIs.comp (e : EnvIs env sc L) {scope : Scope} (hk : scope.kind = .function) (cl : List (Str × Addr)) (C : Addr) : EnvIs (compEnvC scope cl C env) (Mine.relab scope sc) C where
  scope := e.relab scope
  locals := rfl
  globals := e.globals
  builtins := e.builtins
  kind := hk

theorem ev_cell {x : Str} {pos : Pos} {v : Value} {c : Addr} {Q : Value → Shared → Prop} (e : EnvIs env sc L) (hc : env.cells.lookup x = some c) (z : Z b L m ld s.heap) (hv : CellIs ld c (some v)) (h : Q v s)
    (hl : sc.names.lookup x = some .cell := by rfl) (hd : (x == ("__debug__" : Str)) = false := by decide) : wpAny (model prog w) A (eval (.Name x pos) env) Q E s :=
  wpAny_Name (wpAny_loadName_cell e.fn (e.kindOf hl) hc (let ⟨o, a, d⟩ := hv; ⟨o, z.led _ _ a, d⟩) h) hd

theorem st_cell {x : Str} {v : Value} {ov : Option Value} {c : Addr} {Q : Unit → Shared → Prop} (e : EnvIs env sc L) (hc : env.cells.lookup x = some c) (z : Z b L m ld s.heap) (hv : CellIs ld c ov) (hb : b.get? c = none)
    (h : ∀ h' ld', Z b L m ld' h' → CellIs ld' c (some v) → (∀ a, a ≠ c → ld' a = ld a) → Q () { s with heap := h' })
    (hl : sc.names.lookup x = some .cell := by rfl) : wpAny (model prog w) A (storeName env x v) Q E s := by
  obtain ⟨o, ho, hd⟩ := hv
  refine wpAny_storeName_cell e.fn (e.kindOf hl) hc ⟨o, z.led _ _ ho, hd⟩ fun h' hv' hs' => ?_
  obtain ⟨o', ho', hd'⟩ := hv'
  exact h h' _ (z.sameBut ho hb hs' ho') ⟨o', upd_self, hd'⟩ fun a ha => upd_ne ha

theorem lookup_isSome {α : Type} : ∀ (l : List (Str × α)) (k : Str), (l.lookup k).isSome = (l.map (·.1)).contains k
  | [], _ => rfl
  | (n, c) :: r, k => by
    rw [List.lookup_cons, List.map_cons, List.contains_cons]
    cases h : k == n with
    | true => rfl
    | false => rw [Bool.false_or]; exact lookup_isSome r k
theorem cells_isSome {names : List (Str × NameKind)} {k : Str} (n n' : Nat) : ((cellsFrom n names []).lookup k).isSome = ((cellsFrom n' names []).lookup k).isSome := by
  rw [lookup_isSome, lookup_isSome, cellsFrom_names names n n' [] [] rfl]

/-- enter a def that has cells -/
theorem enterX {n : Nat} {f : Addr} {oc : Value} {od : Option Addr} {osl : Array (Option Value)} {fd : FuncData} {body : List Stmt} {pos : List Value} {kw : List (Str × Value)} {binds : List (Str × Value)} {Q : Value → Shared → Prop}
    (C : Cx K mg mb b) (hB : Bs b s.heap) (r : Room A (n + 1)) (ho : K.lookup f = some ⟨oc, od, .func fd, osl⟩) (hcd : codeIn K fd.code fd.qualname = true)
    (hbody : fd.body = .stmts body) (hbind : BindsTo s fd ⟨pos, kw⟩ binds)
    (hkind : (binds.all fun x => decide (fd.scope.names.lookup x.1 = some .local) || (decide (fd.scope.names.lookup x.1 = some .cell) && ((cellsFrom 0 fd.scope.names []).lookup x.1).isSome)) = true)
    (hg : fd.globals = mainGlobals) (hbu : fd.builtins = builtinsNs) (hcl : fd.closure = []) (hco : fd.scope.isCoroutine = false) (hgen : fd.scope.isGenerator = false) (hk : fd.scope.kind = .function)
    (h : ∀ A' env L ld h₁ tk, Room A' n → EnvIs env fd.scope L → env.cells = cellsFrom (L + 1) fd.scope.names [] → New b L → s.heap.get? L = none → Z b L (bindL (kin fd.scope) binds fun _ => none) ld h₁ →
      (∀ a o, s.heap.get? a = some o → ld a = some o) → (∀ n c, env.cells.lookup n = some c → CellIs ld c (bindC (kin fd.scope) binds (fun _ => none) n) ∧ s.heap.get? c = none ∧ New b c) → env.code = fd.code ∧ env.frame = some L ∧ A'.frames = A.frames.map (env :: ·) →
      wpAny (model prog w) A' (execs body env) (fun fl s' => Q (match fl with | .ret v => v | _ => .none) s') (fun _ _ => False) { s with heap := h₁, toks := tk }) :
    wpAny (model prog w) A (call (.ref f) pos kw) Q E s := by
  refine wpAny_call ?_
  have hX := C.X.keeps hB.stays
  have hL0 : ∀ c : Nat, s.heap.objs.size ≤ c → s.heap.get? c = none := fun c hc => by
    cases e : s.heap.get? c with
    | none => rfl
    | some o => exact absurd (Heap.lt_size e) (Nat.not_lt.mpr hc)
  refine codeAny_call_function (fd := fd) r.room (hX _ _ ho) rfl hco hgen hbody (codeRec_of hX hcd) (hbind _ _ _ _ ?_)
  rw [hcl]
  refine wpAny_newFunctionEnv_cells hk (fun x hx => ?_) fun env' he s' x => ?_
  · have q := List.all_eq_true.mp hkind x hx
    simp only [Bool.or_eq_true, Bool.and_eq_true, decide_eq_true_eq] at q
    rw [cells_isSome _ 0]
    exact q
  have hke : env'.kindOf = kin fd.scope := by subst he; rfl
  have hc' : env'.cells = cellsFrom (s.heap.objs.size + 1) fd.scope.names [] := by subst he; rfl
  have hL' : env'.locals = s.heap.objs.size := by subst he; rfl
  have hcode' : env'.code = fd.code ∧ env'.frame = some s.heap.objs.size ∧ (A.deeper env').frames = A.frames.map (env' :: ·) := by subst he; exact ⟨rfl, rfl, rfl⟩
  have hE : EnvIs env' fd.scope s.heap.objs.size := by subst he; exact ⟨rfl, rfl, hg, hbu, hk⟩
  refine ⟨(C.nolimit.keeps hB.stays).keeps x.toInCall.keep, codeAny_func ?_⟩
  obtain ⟨h₁, tk, rfl, hk₁⟩ := x.done
  have hns := x.toInCall.ns
  have hcell := x.cell
  have habove := x.above
  rw [hke, hL'] at hns
  rw [hke] at hcell
  rw [hL'] at habove
  refine wpAny_mono (h _ env' s.heap.objs.size (fun a => if s.heap.objs.size < a then h₁.get? a else s.heap.get? a) h₁ tk (r.deeper _) hE hc' hB.size (hL0 _ (Nat.le_refl _)) ⟨hns, ?_, ?_, ?_, hB.size⟩ ?_ ?_ hcode') (fun fl s' q => ?_) fun _ _ x => x.elim
  · intro a o e
    dsimp only at e
    split at e
    · exact e
    · exact hk₁ _ _ e
  · show (if _ < _ then _ else _) = _; rw [if_neg (Nat.lt_irrefl _)]; exact hL0 _ (Nat.le_refl _)
  · intro a o e
    have := hB.stays a o e
    show (if _ < _ then _ else _) = _; rw [if_neg (Nat.not_lt.mpr (Nat.le_of_lt (Heap.lt_size this)))]; exact this
  · intro a o e
    show (if _ < _ then _ else _) = _; rw [if_neg (Nat.not_lt.mpr (Nat.le_of_lt (Heap.lt_size e)))]; exact e
  · intro n c hc
    have hlt := habove n c (mem_of_lookup hc)
    obtain ⟨o, ho, hd⟩ := hcell n c hc
    exact ⟨⟨o, by show (if _ < _ then _ else _) = _; rw [if_pos hlt]; exact ho, hd⟩, hL0 c (Nat.le_of_lt hlt), Nat.le_trans hB.size (Nat.le_of_lt hlt)⟩
  · cases fl <;> exact q
end
end Mine

namespace Mine

abbrev lstO (ys : List Value) : Obj := listOf ys.toArray ys.length
def CEnd (b : Heap) (C : Addr) (fp : List Addr) (J : Ld → Prop) (lq : Ld) (s s' : Shared) : Prop :=
  ∃ h₂ tk₂ m₂ lf, s' = { s with heap := h₂, toks := tk₂ } ∧ Z b C m₂ lf h₂ ∧ J lf ∧ ∀ a ∈ fp, lf a = lq a
def off (L : Addr) (ld : Ld) : Ld := fun a => if a = L then none else ld a

section
variable {prog : Program} {w : World} {A : Around} {E : Value → Shared → Prop} {s : Shared} {K : Frag} {mg mb : Str → Option Value} {b : Heap} {L : Addr} {m : Str → Option Value} {ld : Ld} {env : Env} {sc : Scope} {h : Heap}

/-- into a frame of its own within the frame L -/
theorem Z.into {o : Obj} {h₁ : Heap} {mC : Loc} (z : Z b L m ld h) (hn : h₁.Ns h.objs.size mC) (hs : Heap.SameBut h.objs.size (h.push o) h₁) : ∃ oL, LCg.NsObj oL m ∧ Z b h.objs.size mC (upd ld L oL) h₁ := by
  obtain ⟨oL, hL, hno⟩ := LCg.ns_obj z.ns
  have keep : ∀ a o', h.get? a = some o' → h₁.get? a = some o' := fun a o' q => hs.extBut a o' (ne_of_lt1 (Heap.lt_size q)) (Heap.get?_push_of_some _ q)
  refine ⟨oL, hno, hn, ?_, ?_, ?_, z.bs.size⟩
  · intro a o' q
    by_cases ha : a = L
    · subst ha; rw [upd_self] at q; cases q; exact keep _ _ hL
    · rw [upd_ne ha] at q; exact keep _ _ (z.led _ _ q)
  · rw [upd_ne (Ne.symm (ne_of_lt1 z.ns.lt))]; exact z.size_none
  · intro a o' q
    have := z.base a o' q
    rw [upd_ne (z.neL this)]; exact this

theorem Z.back {h' : Heap} {C : Addr} {oL : Obj} {mC : Loc} {lq : Ld} (z : Z b C mC lq h) (hL : lq L = some oL) (hno : LCg.NsObj oL m) (hb : b.objs.size ≤ L) (hs : Heap.SameBut C h h') : Z b L m (off L lq) h' where
  ns := hno.ns (hs.extBut _ _ (z.neL hL) (z.led _ _ hL))
  led := fun a o q => by
    unfold off at q
    split at q
    · cases q
    · exact hs.extBut _ _ (z.neL q) (z.led _ _ q)
  fr := by unfold off; rw [if_pos rfl]
  base := fun a o q => by
    unfold off
    rw [if_neg (fun e => by rw [e] at q; exact absurd (Heap.lt_size q) (Nat.not_lt.mpr hb))]
    exact z.base _ _ q
  above := hb

theorem Z.isL {ax : Addr} {items : Array Value} {ep : Nat} (z : Z b L m ld h) (q : ld ax = some (listOf items ep)) : h.IsList ax items := ⟨_, z.led _ _ q, rfl, _, rfl⟩

theorem lc_list {elt iter : Expr} {ifs : List Expr} {x : Str} {px : Pos} {scope : Scope} {cl : List (Str × Addr)} {pos : Pos} {RR : Value → Addr → Result → Shared → Prop} {ax : Addr} {items : Array Value} {ep mm : Nat} (r : Room A mm) (e : EnvIs env sc L)
    (z : Z b L m ld s.heap) (hax : ld ax = some (listOf items ep)) (hsz : items.size ≤ sizeLine)
    (J : Addr → Addr → Nat → List Value → Ld → Prop)
    (h0 : ∀ I D ld₁, ld I = none → ld D = none → (∀ a o, ld a = some o → ld₁ a = some o) → J I D 0 [] ld₁)
    (hJ : ∀ I D, ld I = none → ld D = none → ∀ i ys l l', J I D i ys l → (∀ a, a ≠ I → a ≠ D → a ≠ L → l' a = l a) → J I D i ys l')
    (turn : ∀ I C D i v ys (m₁ : Loc) lq h₁ tk₁, ld I = none → ld D = none → ld C = none → items[i]? = some v → J I D i ys lq → lq ax = some (listOf items ep) → (lq I).isSome = true → lq D = some (lstO ys) → (lq L).isSome = true →
      EnvIs (compEnvC scope cl C env) (relab scope sc) C → Z b C (fun y => if y = x then some v else m₁ y) lq h₁ →
      wpAny (model prog w) A (forIn ifs true fun c r => if r = true then do let ok ← isTrue c (compEnvC scope cl C env) (eval c (compEnvC scope cl C env)); pure (ForInStep.yield ok) else pure (ForInStep.yield r))
        (fun ok s' => if ok = true then wpAny (model prog w) A (eval elt (compEnvC scope cl C env)) (fun y s'' => CEnd b C [I, ax, D, L] (J I D (i + 1) (ys ++ [y])) lq s s'') (fun _ _ => False) s' else CEnd b C [I, ax, D, L] (J I D (i + 1) ys) lq s s')
        (fun _ _ => False) { s with heap := h₁, toks := tk₁ })
    (done : ∀ I D C ys lq mC h₁ tk₁, ld D = none → New b D → J I D items.size ys lq → lq D = some (lstO ys) → Z b L m lq h₁ → lq C = none → L ≠ C → h₁.Ns C mC → RR (.ref D) C (.ok .next) { s with heap := h₁, toks := tk₁ })
    (hx : scope.names.lookup x = some .local := by rfl) (hkind : scope.kind = .function := by rfl) (hcell : (scope.names.all fun x => decide (x.2 ≠ .cell)) = true := by rfl) :
    wpAny (model prog w) A (pyIter (.ref ax)) (fun it s₂ => wpAny (model prog w) A (newList []) (fun acc s₃ => wpAny (model prog w) A (newFunctionEnv scope env.globals cl [] env.qual none .none (some env)) (fun cenv s₄ =>
      codeAny (model prog w) A (.compStart (.ListComp elt [⟨.Name x px, iter, ifs, 0⟩] scope pos) 0 it acc { cenv with scope := relabel scope env }) (RR acc cenv.locals) s₄) E s₃) E s₂) E s := by
  have hl : Heap.IsList s.heap ax items := z.isList hax
  refine wpAny_pyIter_list hl ?_
  have hne : ax ≠ s.heap.objs.size := ne_of_lt1 (Heap.lt_size (z.led _ _ hax))
  have z₂ := z.push { cls := .type "list_iterator", data := .fields #[.ref ax, .int 0 0] }
  have hI0 : ld s.heap.objs.size = none := z.size_none
  have hIb : b.get? s.heap.objs.size = none := New.none (b := b) (z.bs.size)
  generalize hH1 : s.heap.push { cls := .type "list_iterator", data := .fields #[.ref ax, .int 0 0] } = H1 at z₂ ⊢
  have hH1s : H1.objs.size = s.heap.objs.size + 1 := by rw [← hH1, Heap.size_push]
  refine wpAny_newObj_type (wpAny_newFunctionEnv (fun x hx => of_decide_eq_true (List.all_eq_true.mp hcell x hx)) (by intro y hy; simp at hy) (fun h₁ hns₁ hsb₁ => ?_) hkind)
  have z₃ := z₂.push (lstO [])
  dsimp only at hns₁ hsb₁ ⊢
  change h₁.Ns (H1.push (lstO [])).objs.size _ at hns₁
  change Heap.SameBut (H1.push (lstO [])).objs.size ((H1.push (lstO [])).push _) h₁ at hsb₁
  obtain ⟨oL, hoL, z₄⟩ := z₃.into hns₁ hsb₁
  show codeAny _ A (.compStart _ 0 (.ref s.heap.objs.size) (.ref H1.objs.size) (compEnvC scope cl (H1.push (lstO [])).objs.size env)) (RR (.ref H1.objs.size) (H1.push (lstO [])).objs.size) _
  generalize hH2 : H1.push (lstO []) = H2 at z₄ ⊢
  have hH2s : H2.objs.size = H1.objs.size + 1 := by rw [← hH2, Heap.size_push]
  have hD0 : ld H1.objs.size = none := by rw [hH1s]; exact z.none1
  have hC0 : ld H2.objs.size = none := by
    cases q : ld H2.objs.size with
    | none => rfl
    | some o => exact absurd (z.lt q) (by rw [hH2s, hH1s]; exact Nat.not_lt.mpr (Nat.le_succ_of_le (Nat.le_succ _)))
  have hDb : New b H1.objs.size := by unfold New; rw [hH1s]; exact Nat.le_succ_of_le z.bs.size
  have hIL : s.heap.objs.size ≠ L := Ne.symm (ne_of_lt1 z.ns.lt)
  have hDL : H1.objs.size ≠ L := by rw [hH1s]; exact Ne.symm (ne_of_lt2 z.ns.lt)
  have hID : s.heap.objs.size ≠ H1.objs.size := by rw [hH1s]; exact Ne.symm (Nat.succ_ne_self _)
  have haxL : ax ≠ L := z.neL hax
  have haxD : ax ≠ H1.objs.size := by rw [hH1s]; exact ne_of_lt2 (Heap.lt_size (z.led _ _ hax))
  have hCI : H2.objs.size ∉ [s.heap.objs.size] := fun q => by
    have := List.mem_singleton.mp q
    rw [hH2s, hH1s] at this
    exact absurd this (Nat.ne_of_gt (Nat.lt_succ_of_lt (Nat.lt_succ_self _)))
  have hCD : H2.objs.size ≠ H1.objs.size := by rw [hH2s]; exact Nat.succ_ne_self _
  have W := Walks.list (prog := prog) (w := w) r.handled s.heap.objs.size ax hne items
  have eC := e.comp hkind cl H2.objs.size
  have lp : ∀ s₃ : Shared, s₃ = { s with heap := h₁, toks := s.toks + 0 } →
      codeAny (model prog w) A (.compLoop (.ListComp elt [⟨.Name x px, iter, ifs, 0⟩] scope pos) 0 (.ref s.heap.objs.size) (.ref H1.objs.size) (compEnvC scope cl H2.objs.size env))
        (RR (.ref H1.objs.size) H2.objs.size) s₃ := by
    rintro s₃ rfl
    refine codeAny_compLoop_tests
      (fun k s' => ∃ h' tk i ys m' lq, s' = { s with heap := h', toks := tk } ∧ i ≤ items.size ∧ k = items.size + 1 - i ∧ ys.length ≤ i ∧ (h'.IsListIter s.heap.objs.size ax i ∧ h'.IsList ax items) ∧ Z b H2.objs.size m' lq h' ∧ lq L = some oL ∧
        lq H1.objs.size = some (lstO ys) ∧ lq ax = some (listOf items ep) ∧ (lq s.heap.objs.size).isSome = true ∧ J s.heap.objs.size H1.objs.size i ys lq) ?_ (items.size + 1)
      ⟨h₁, _, 0, [], _, _, rfl, Nat.zero_le _, rfl, Nat.le_refl _, ⟨⟨_, z₄.led s.heap.objs.size _ ((upd_ne hIL).trans ((upd_ne hID).trans upd_self)), rfl, rfl⟩, z₄.isL ((upd_ne haxL).trans ((upd_ne haxD).trans ((upd_ne hne).trans hax)))⟩, z₄, upd_self, (upd_ne hDL).trans upd_self,
        (upd_ne haxL).trans ((upd_ne haxD).trans ((upd_ne hne).trans hax)), by rw [upd_ne hIL, upd_ne hID, upd_self]; rfl, h0 _ _ _ hI0 hD0 fun a o q => ?_⟩
    · rintro k s' ⟨h', tk, i, ys, m', lq, rfl, hi, rfl, hyl, hst', z', hqL, hqD, hqx, hqI, hJ'⟩
      by_cases hlt : i < items.size
      · refine W.item i _ _ _ hlt hst' fun v h₂ tk₂ hPv hst₂ hk₂ => ?_
        have z₅ := z'.sees hCI (fun a ha => by rw [List.mem_singleton.mp ha]; exact hIb) (fun a o q => hk₂ a o q)
        have sne : ∀ a, a ≠ s.heap.objs.size → sees [s.heap.objs.size] h₂ lq a = lq a := fun a ha => by unfold sees; rw [if_neg fun q => ha (List.mem_singleton.mp q)]
        have sI : (sees [s.heap.objs.size] h₂ lq s.heap.objs.size).isSome = true := by
          unfold sees; rw [if_pos (List.mem_singleton.mpr rfl)]
          obtain ⟨o, q, _⟩ := hst₂.1
          rw [q]; rfl
        refine wpAny_assign_Name (st_loc eC z₅ (fun h₃ z₆ => ?_) (lookup_relabel_local hx))
        refine wpAny_mono (turn s.heap.objs.size H2.objs.size H1.objs.size i v ys m' (sees [s.heap.objs.size] h₂ lq) h₃ _ hI0 hD0 hC0 hPv (hJ _ _ hI0 hD0 i ys lq _ hJ' fun a ha _ _ => sne a ha) ((sne _ hne).trans hqx) sI ((sne _ (Ne.symm hID)).trans hqD) (by rw [sne L (Ne.symm hIL), hqL]; rfl) eC z₆) (fun ok s₄ h₄ => ?_) fun _ _ x => x.elim
        have stay : ∀ h₅ lf mC, Z b H2.objs.size mC lf h₅ → (∀ a ∈ [s.heap.objs.size, ax, H1.objs.size, L], lf a = sees [s.heap.objs.size] h₂ lq a) → h₅.IsListIter s.heap.objs.size ax (i + 1) ∧ h₅.IsList ax items := fun h₅ lf mC z₇ hf => by
          refine ⟨?_, z₇.isL ((hf ax (by simp)).trans ((sne _ hne).trans hqx))⟩
          obtain ⟨o, q, rr⟩ := hst₂.1
          exact ⟨o, z₇.led _ _ ((hf s.heap.objs.size (by simp)).trans (by unfold sees; rw [if_pos (List.mem_singleton.mpr rfl)]; exact q)), rr⟩
        cases ok with
        | true =>
          simp only [if_true] at h₄ ⊢
          refine wpAny_mono h₄ (fun y s₅ h₅ => ?_) fun _ _ x => x.elim
          obtain ⟨h₅, tk₅, mC, lf, rfl, z₇, hj, hf⟩ := h₅
          have hlD : lf H1.objs.size = some (lstO ys) := (hf _ (by simp)).trans ((sne _ (Ne.symm hID)).trans hqD)
          refine append_at (hsz := by show ys.toArray.size ≤ sizeLine; rw [List.size_toArray]; exact Nat.le_trans (Nat.le_trans hyl hi) hsz) (z₇.led _ _ hlD) fun h₆ hs₆ hD₆ => ?_
          have z₈ := z₇.sameBut hlD (New.none hDb) hs₆ hD₆
          have hst₇ := stay _ _ _ z₇ hf
          refine ⟨items.size + 1 - (i + 1), by omega, h₆, tk₅, i + 1, ys ++ [y], mC, _, rfl, hlt, rfl, by rw [List.length_append, List.length_singleton]; exact Nat.succ_le_succ hyl, ⟨?_, z₈.isL ((upd_ne haxD).trans ((hf ax (by simp)).trans ((sne _ hne).trans hqx)))⟩, z₈, ?_, ?_, ?_, ?_, ?_⟩
          · obtain ⟨o, q, rr⟩ := hst₇.1
            exact ⟨o, hs₆.extBut _ _ hID q, rr⟩
          · exact (upd_ne (Ne.symm hDL)).trans ((hf L (by simp)).trans ((sne _ (Ne.symm hIL)).trans hqL))
          · exact upd_self.trans (congrArg some (LCg.lst_snoc ys y))
          · exact (upd_ne haxD).trans ((hf ax (by simp)).trans ((sne _ hne).trans hqx))
          · rw [upd_ne hID, hf _ (by simp)]; exact sI
          · exact hJ _ _ hI0 hD0 _ _ _ _ hj fun a _ ha _ => upd_ne ha
        | false =>
          simp only [Bool.false_eq_true, if_false] at h₄ ⊢
          obtain ⟨h₅, tk₅, mC, lf, rfl, z₇, hj, hf⟩ := h₄
          exact ⟨items.size + 1 - (i + 1), by omega, h₅, tk₅, i + 1, ys, mC, lf, rfl, hlt, rfl, Nat.le_succ_of_le hyl, stay _ _ _ z₇ hf, z₇, (hf L (by simp)).trans ((sne _ (Ne.symm hIL)).trans hqL), (hf _ (by simp)).trans ((sne _ (Ne.symm hID)).trans hqD), (hf ax (by simp)).trans ((sne _ hne).trans hqx), by rw [hf _ (by simp)]; exact sI, hj⟩
      · obtain rfl : i = items.size := Nat.le_antisymm hi (Nat.not_lt.mp hlt)
        refine W.done _ _ _ hst' fun h₂ tk₂ hk₂ => ?_
        have z₅ := z'.sees hCI (fun a ha => by rw [List.mem_singleton.mp ha]; exact hIb) (fun a o q => hk₂ a o q)
        have sne : ∀ a, a ≠ s.heap.objs.size → sees [s.heap.objs.size] h₂ lq a = lq a := fun a ha => by unfold sees; rw [if_neg fun q => ha (List.mem_singleton.mp q)]
        have z₆ := z₅.back ((sne L (Ne.symm hIL)).trans hqL) hoL z.above (Heap.SameBut.refl _ _)
        have hLC : L ≠ H2.objs.size := fun q => by have := z.ns.lt; rw [q, hH2s, hH1s] at this; exact absurd this (Nat.not_lt.mpr (Nat.le_succ_of_le (Nat.le_succ _)))
        refine done s.heap.objs.size H1.objs.size H2.objs.size ys _ m' h₂ tk₂ hD0 hDb (hJ _ _ hI0 hD0 _ _ _ _ hJ' fun a ha _ haL => ?_) ?_ z₆ ?_ hLC z₅.ns
        · unfold off; rw [if_neg haL]; exact sne a ha
        · unfold off; rw [if_neg hDL]; exact (sne _ (Ne.symm hID)).trans hqD
        · unfold off; rw [if_neg (Ne.symm hLC)]; exact z₅.fr
    · have hlt := z.lt q
      rw [upd_ne (z.neL q), upd_ne (by rw [hH1s]; exact ne_of_lt2 hlt), upd_ne (ne_of_lt1 hlt)]
      exact q
  have hs0 : (h₁.IsListIter s.heap.objs.size ax 0 ∧ h₁.IsList ax items) := ⟨⟨_, z₄.led s.heap.objs.size _ ((upd_ne hIL).trans ((upd_ne hID).trans upd_self)), rfl, rfl⟩, z₄.isL ((upd_ne haxL).trans ((upd_ne haxD).trans ((upd_ne hne).trans hax)))⟩
  exact codeAny_compStart_list (lp _ rfl) (W.self 0 _ _ _ hs0 (lp _ rfl))

theorem Z.other {h' : Heap} {C : Addr} (z : Z b L m ld h) (hC : ld C = none) (hLC : L ≠ C) (hs : Heap.SameBut C h h') : Z b L m ld h' where
  ns := z.ns.sameBut hs hLC
  led := fun a o q => hs.extBut _ _ (fun e => by rw [e, hC] at q; cases q) (z.led _ _ q)
  fr := z.fr
  base := z.base
  above := z.above

theorem post_plain {D C : Addr} {lq : Ld} {h₁ : Heap} {mC : Loc} {tk : Nat} {Q : Value → Shared → Prop} (z : Z b L m lq h₁) (hC : lq C = none) (hLC : L ≠ C) (hns : h₁.Ns C mC) (h : ∀ h', Z b L m lq h' → Q (.ref D) { s with heap := h', toks := tk }) :
    compPost (model prog w) A E none Q (.ref D) C (.ok .next) { s with heap := h₁, toks := tk } := ⟨mC, hns, fun h' hs => h h' (z.other hC hLC hs)⟩

theorem post_use {y : Str} {py : Pos} {D C : Addr} {lq : Ld} {h₁ : Heap} {mC : Loc} {tk : Nat} {Q : Value → Shared → Prop} (e : EnvIs env sc L) (z : Z b L m lq h₁) (hC : lq C = none) (hLC : L ≠ C) (hns : h₁.Ns C mC)
    (h : ∀ h', Z b L (fun n => if n = y then some (.ref D) else m n) lq h' → Q .none { s with heap := h', toks := tk + 1 }) (hy : sc.names.lookup y = some .local := by rfl) :
    compPost (model prog w) A E (some (assign (.Name y py) env)) Q (.ref D) C (.ok .next) { s with heap := h₁, toks := tk } := by
  obtain ⟨oC, hoC, hno⟩ := LCg.ns_obj hns
  have hbC : ∀ a o, b.get? a = some o → a ≠ C := fun a o q e => by have := z.base a o q; rw [e, hC] at this; cases this
  have z₁ : Z b L m (upd lq C oC) h₁ := ⟨z.ns, fun a o q => by
      by_cases ha : a = C
      · subst ha; rw [upd_self] at q; cases q; exact hoC
      · rw [upd_ne ha] at q; exact z.led _ _ q, by rw [upd_ne hLC]; exact z.fr, fun a o q => by rw [upd_ne (hbC a o q)]; exact z.base _ _ q, z.above⟩
  show wpAny _ A (assign (.Name y py) env (.ref D)) _ E _
  refine wpAny_assign_Name (st_loc e z₁ (fun h₂ z₂ => ?_) hy)
  refine ⟨mC, hno.ns (z₂.led _ _ upd_self), fun h' hs => h h' ?_⟩
  have z₃ : Z b L (fun n => if n = y then some (.ref D) else m n) lq h₂ := z₂.mono (fun a o q => by rw [upd_ne (fun e => by rw [e, hC] at q; cases q)]; exact q) z.base
  exact z₃.other hC hLC hs
end
end Mine

namespace Mine

section
variable {prog : Program} {w : World} {A : Around} {E : Value → Shared → Prop} {s : Shared} {K : Frag} {mg mb : Str → Option Value} {b : Heap} {L : Addr} {m : Str → Option Value} {ld : Ld} {env : Env} {sc : Scope} {h : Heap}

theorem lc {elt iter : Expr} {ifs : List Expr} {target : Expr} {scope : Scope} {cl cells : List (Str × Addr)} {pos : Pos} {Q : Value → Shared → Prop} (hcs : env.cells = cells) (hclos : closL cells scope.names [] = some cl)
    (h : wpAny (model prog w) A (eval iter env) (fun v s₁ => wpAny (model prog w) A (pyIter v) (fun it s₂ => wpAny (model prog w) A (newList []) (fun acc s₃ => wpAny (model prog w) A (newFunctionEnv scope env.globals cl [] env.qual none .none (some env)) (fun cenv s₄ =>
      codeAny (model prog w) A (.compStart (.ListComp elt [⟨target, iter, ifs, 0⟩] scope pos) 0 it acc { cenv with scope := relabel scope env }) (compPost (model prog w) A E none Q acc cenv.locals) s₄) E s₃) E s₂) E s₁) E s)
    (hs : ∀ x, foldedSetIterable iter env x = pure x := by intro _; rfl) (hkind : scope.kind = .function := by rfl)
    (hnames : (scope.names.all fun y => decide (y.2 = .local → scope.names.lookup y.1 = some .local)) = true := by rfl) :
    wpAny (model prog w) A (eval (.ListComp elt [⟨target, iter, ifs, 0⟩] scope pos) env) Q E s := by
  rw [eval_ListComp]
  exact wpAny_comprehension_free (use := none) rfl hs (closureFor_of hcs hclos) hkind (fun y hy => of_decide_eq_true (List.all_eq_true.mp hnames y hy)) h

theorem lm_append {l : Addr} {its : Array Value} {n : Nat} {pl : Sem Bool} {Q : Value × List Value → Shared → Prop} (z : Z b L m ld s.heap) (hl : ld l = some (listOf its n)) (h : Q (.builtin "list.append", [.ref l]) s) :
    wpAny (model prog w) A (getMethod (.ref l) "append" pl) Q E s := getMethod_list_append (z.led _ _ hl) rfl rfl h

theorem l_append {l : Addr} {vs : List Value} {n : Nat} {v : Value} {Q : Value → Shared → Prop} (z : Z b L m ld s.heap) (hl : ld l = some (listOf vs.toArray n)) (hn : New b l) (hsz : vs.length ≤ 10000)
    (h : ∀ h', Z b L m (upd ld l (listOf (vs ++ [v]).toArray (n + 1))) h' → Q .none { s with heap := h' }) : wpAny (model prog w) A (call (.builtin "list.append") [.ref l, v]) Q E s := by
  refine append_at (hsz := by rw [List.size_toArray, PySem.sizeLine_eq]; omega) (z.led _ _ hl) fun h' hs' e' => h h' ?_
  have := z.sameBut hl (New.none hn) hs' e'
  rwa [show (vs.toArray.push v) = (vs ++ [v]).toArray by simp] at this

theorem swaps_true {elt : Expr} {gens : List Comprehension} {scope : Scope} {pos : Pos} {y : Str} {py : Pos} {n : Nat} (e : EnvIs env sc L) (hy : sc.names.lookup y = some .local) (hl : (py.line == pos.line) = true)
    (hn : (!(scope.names.any fun x => x.1 == y && (x.2 == .local || x.2 == .cell))) = true) : swapsWith (.ListComp elt gens scope pos) (some (.Name y py)) n env = pure true := by
  show (pure (env.blockKind == .function && env.kindOf y == some .local && py.line == pos.line && !(scope.names.any fun (n, k) => n == y && (k == .local || k == .cell))) : Sem Bool) = pure true
  rw [e.block, e.kindOf hy, hl, hn]; rfl

/-- y = [.. for .. in ..] in one line, y a local name -/
theorem as_lc {elt iter : Expr} {ifs : List Expr} {target : Expr} {scope : Scope} {cl cells : List (Str × Addr)} {pos spos py : Pos} {y : Str} {Q : Flow → Shared → Prop} (e : EnvIs env sc L) (hcs : env.cells = cells) (hclos : closL cells scope.names [] = some cl)
    (h : wpAny (model prog w) A (eval iter env) (fun v s₁ => wpAny (model prog w) A (pyIter v) (fun it s₂ => wpAny (model prog w) A (newList []) (fun acc s₃ => wpAny (model prog w) A (newFunctionEnv scope env.globals cl [] env.qual none .none (some env)) (fun cenv s₄ =>
      codeAny (model prog w) A (.compStart (.ListComp elt [⟨target, iter, ifs, 0⟩] scope pos) 0 it acc { cenv with scope := relabel scope env }) (compPost (model prog w) A E (some (assign (.Name y py) env)) (fun _ s' => Q .next s') acc cenv.locals) s₄) E s₃) E s₂) E s₁) E s)
    (hy : sc.names.lookup y = some .local := by rfl) (hl : (py.line == pos.line) = true := by rfl) (hn : (!(scope.names.any fun x => x.1 == y && (x.2 == .local || x.2 == .cell))) = true := by rfl)
    (hs : ∀ x, foldedSetIterable iter env x = pure x := by intro _; rfl) (hkind : scope.kind = .function := by rfl)
    (hnames : (scope.names.all fun y => decide (y.2 = .local → scope.names.lookup y.1 = some .local)) = true := by rfl) :
    wpAny (model prog w) A (exec (.Assign [.Name y py] (.ListComp elt [⟨target, iter, ifs, 0⟩] scope pos) spos) env) Q E s := by
  rw [exec_Assign_Name_used _ _ _ _ (swaps_true e hy hl hn)]
  refine wpAny_bind (wpAny_standAt (wpAny_bind ?_))
  show wpAny _ A (do let _ ← comprehension (.ListComp elt [⟨target, iter, ifs, 0⟩] scope pos) scope env _ (newList []) false (eval iter env) (some (assign (.Name y py) env))) _ _ s
  exact wpAny_bind (wpAny_mono (wpAny_comprehension_free (Q := fun _ s' => Q .next s') (use := some (assign (.Name y py) env)) rfl hs (closureFor_of hcs hclos) hkind (fun y hy => of_decide_eq_true (List.all_eq_true.mp hnames y hy)) h) (fun _ s' hq => wpAny_pure (wpAny_pure hq)) fun _ _ e => e)

/-- [e for x in ints if ..], e an int -/
theorem lc_ints {elt iter : Expr} {ifs : List Expr} {x : Str} {px : Pos} {scope : Scope} {cl : List (Str × Addr)} {pos : Pos} {RR : Value → Addr → Result → Shared → Prop} {ax : Addr} {vs : List Value} {ns : List Int} {ep mm : Nat} (p : Int → Bool) (g : Int → Int) (r : Room A mm) (e : EnvIs env sc L)
    (z : Z b L m ld s.heap) (hax : ld ax = some (listOf vs.toArray ep)) (hi : IntsAre vs ns) (hsz : vs.length ≤ 10000)
    (test : ∀ C k t (m₁ : Loc) lq h₁ tk₁, (∀ a o, ld a = some o → lq a = some o) → k ∈ ns → EnvIs (compEnvC scope cl C env) (relab scope sc) C → Z b C (fun y => if y = x then some (.int k t) else m₁ y) lq h₁ →
      wpAny (model prog w) A (forIn ifs true fun c r => if r = true then do let ok ← isTrue c (compEnvC scope cl C env) (eval c (compEnvC scope cl C env)); pure (ForInStep.yield ok) else pure (ForInStep.yield r))
        (fun ok s' => ok = p k ∧ ∃ h₂ tk₂, s' = { s with heap := h₂, toks := tk₂ } ∧ Z b C (fun y => if y = x then some (.int k t) else m₁ y) lq h₂) (fun _ _ => False) { s with heap := h₁, toks := tk₁ })
    (val : ∀ C k t (m₁ : Loc) lq h₁ tk₁, EnvIs (compEnvC scope cl C env) (relab scope sc) C → Z b C (fun y => if y = x then some (.int k t) else m₁ y) lq h₁ →
      wpAny (model prog w) A (eval elt (compEnvC scope cl C env)) (fun v s' => ∃ u tk₂, v = .int (g k) u ∧ s' = { s with heap := h₁, toks := tk₂ }) (fun _ _ => False) { s with heap := h₁, toks := tk₁ })
    (done : ∀ D C ys lq mC h₁ tk₁, ld D = none → New b D → (∀ a o, ld a = some o → lq a = some o) → IntsAre ys ((ns.filter p).map g) → lq D = some (lstO ys) → Z b L m lq h₁ → lq C = none → L ≠ C → h₁.Ns C mC → RR (.ref D) C (.ok .next) { s with heap := h₁, toks := tk₁ })
    (hx : scope.names.lookup x = some .local := by rfl) (hkind : scope.kind = .function := by rfl) (hcell : (scope.names.all fun x => decide (x.2 ≠ .cell)) = true := by rfl) :
    wpAny (model prog w) A (pyIter (.ref ax)) (fun it s₂ => wpAny (model prog w) A (newList []) (fun acc s₃ => wpAny (model prog w) A (newFunctionEnv scope env.globals cl [] env.qual none .none (some env)) (fun cenv s₄ =>
      codeAny (model prog w) A (.compStart (.ListComp elt [⟨.Name x px, iter, ifs, 0⟩] scope pos) 0 it acc { cenv with scope := relabel scope env }) (RR acc cenv.locals) s₄) E s₃) E s₂) E s := by
  refine lc_list r e z hax (by rw [List.size_toArray, PySem.sizeLine_eq]; omega) (fun _ _ i ys l => (∀ a o, ld a = some o → l a = some o) ∧ IntsAre ys (((ns.take i).filter p).map g)) ?_ ?_ ?_ ?_ hx hkind hcell
  · intro _ _ ld₁ _ _ q; exact ⟨q, .nil⟩
  · rintro I D hI hD i ys l l' ⟨q1, q2⟩ q3
    refine ⟨fun a o q => ?_, q2⟩
    rw [q3 a (fun e => by rw [e, hI] at q; cases q) (fun e => by rw [e, hD] at q; cases q) (z.neL q)]; exact q1 a o q
  · rintro I C D i v ys m₁ lq h₁ tk₁ hI hD hC hv ⟨q1, q2⟩ hqx hqI hqD hqL eC z₁
    obtain ⟨k, t, rfl, hk⟩ := IntsAre.at hi i v (by simpa using hv)
    refine wpAny_mono (test C k t m₁ lq h₁ tk₁ q1 (List.mem_of_getElem? hk) eC z₁) (fun ok s' q => ?_) fun _ _ x => x
    obtain ⟨rfl, h₂, tk₂, rfl, z₂⟩ := q
    have htk : ns.take (i + 1) = ns.take i ++ [k] := by rw [List.take_add_one, hk]; rfl
    cases hp : p k with
    | true =>
      rw [if_pos rfl]
      refine wpAny_mono (val C k t m₁ lq h₂ tk₂ eC z₂) (fun v s' q => ?_) fun _ _ x => x
      obtain ⟨u, tk₃, rfl, rfl⟩ := q
      refine ⟨h₂, tk₃, _, lq, rfl, z₂, ⟨q1, ?_⟩, fun _ _ => rfl⟩
      rw [htk, List.filter_append, List.map_append]
      refine IntsAre.append q2 ?_
      rw [List.filter_cons_of_pos hp]; exact .cons _ _ .nil
    | false =>
      rw [if_neg (by simp)]
      refine ⟨h₂, tk₂, _, lq, rfl, z₂, ⟨q1, ?_⟩, fun _ _ => rfl⟩
      rw [htk, List.filter_append, List.filter_cons_of_neg (by simp [hp]), List.filter_nil, List.append_nil]; exact q2
  · rintro _ D C ys lq mC h₁ tk₁ hD hDn ⟨q1, q2⟩ hqD z₁ hC hLC hns
    rw [List.size_toArray, hi.length, List.take_length] at q2
    exact done D C ys lq mC h₁ tk₁ hD hDn q1 q2 hqD z₁ hC hLC hns

/-- [x for x in ints if p] -/
theorem lc_filter {iter ct : Expr} {x : Str} {px pe : Pos} {scope : Scope} {cl : List (Str × Addr)} {pos : Pos} {RR : Value → Addr → Result → Shared → Prop} {ax : Addr} {vs : List Value} {ns : List Int} {ep mm : Nat} (p : Int → Bool) (r : Room A mm) (e : EnvIs env sc L)
    (z : Z b L m ld s.heap) (hax : ld ax = some (listOf vs.toArray ep)) (hi : IntsAre vs ns) (hsz : vs.length ≤ 10000)
    (test : ∀ C k t (m₁ : Loc) lq h₁ tk₁, (∀ a o, ld a = some o → lq a = some o) → k ∈ ns → EnvIs (compEnvC scope cl C env) (relab scope sc) C → Z b C (fun y => if y = x then some (.int k t) else m₁ y) lq h₁ →
      wpAny (model prog w) A (isTrue ct (compEnvC scope cl C env) (eval ct (compEnvC scope cl C env))) (fun ok s' => ok = p k ∧ ∃ h₂ tk₂, s' = { s with heap := h₂, toks := tk₂ } ∧ Z b C (fun y => if y = x then some (.int k t) else m₁ y) lq h₂) (fun _ _ => False) { s with heap := h₁, toks := tk₁ })
    (done : ∀ D C ys lq mC h₁ tk₁, ld D = none → New b D → (∀ a o, ld a = some o → lq a = some o) → IntsAre ys (ns.filter p) → lq D = some (lstO ys) → Z b L m lq h₁ → lq C = none → L ≠ C → h₁.Ns C mC → RR (.ref D) C (.ok .next) { s with heap := h₁, toks := tk₁ })
    (hx : scope.names.lookup x = some .local := by rfl) (hkind : scope.kind = .function := by rfl) (hcell : (scope.names.all fun x => decide (x.2 ≠ .cell)) = true := by rfl) (hd : (x == ("__debug__" : Str)) = false := by decide) :
    wpAny (model prog w) A (pyIter (.ref ax)) (fun it s₂ => wpAny (model prog w) A (newList []) (fun acc s₃ => wpAny (model prog w) A (newFunctionEnv scope env.globals cl [] env.qual none .none (some env)) (fun cenv s₄ =>
      codeAny (model prog w) A (.compStart (.ListComp (.Name x pe) [⟨.Name x px, iter, [ct], 0⟩] scope pos) 0 it acc { cenv with scope := relabel scope env }) (RR acc cenv.locals) s₄) E s₃) E s₂) E s :=
  lc_ints p id r e z hax hi hsz (fun C k t m₁ lq h₁ tk₁ q1 q2 q3 q4 => wpAny_tests_one (test C k t m₁ lq h₁ tk₁ q1 q2 q3 q4))
    (fun C k t m₁ lq h₁ tk₁ eC z₁ => ev_loc eC z₁ (v := .int k t) (if_pos rfl) ⟨t, tk₁, rfl, rfl⟩ (lookup_relabel_local hx) hd)
    (fun D C ys lq mC h₁ tk₁ q1 q2 q3 q4 => done D C ys lq mC h₁ tk₁ q1 q2 q3 (by rwa [List.map_id] at q4)) hx hkind hcell
end
end Mine

namespace Mine

section
variable {prog : Program} {w : World} {A : Around} {E : Value → Shared → Prop} {s : Shared} {K : Frag} {mg mb : Str → Option Value} {b : Heap} {L : Addr} {m : Str → Option Value} {ld : Ld} {env : Env} {sc : Scope} {h : Heap}

theorem ev_nil {pos : Pos} {Q : Value → Shared → Prop} (z : Z b L m ld s.heap)
    (h : ∀ D h', ld D = none → New b D → Z b L m (upd ld D (lstO [])) h' → Q (.ref D) { s with heap := h' }) : wpAny (model prog w) A (eval (.List [] pos) env) Q E s :=
  wpAny_List (args_nil ⟨Nat.zero_le _, h _ _ z.size_none z.bs.size (z.push (lstO []))⟩)

theorem upd_old {a D : Addr} {o o' : Obj} (hD : ld D = none) (ha : ld a = some o) : upd ld D o' a = some o := by
  rw [upd_ne fun e => by rw [e, hD] at ha; cases ha]; exact ha

end
end Mine

namespace Mine

section
variable {prog : Program} {w : World} {A : Around} {s : Shared} {K : Frag} {mg mb : Str → Option Value} {b : Heap} {L : Addr} {m : Str → Option Value} {ld : Ld} {env : Env} {sc : Scope}

theorem loopA {Q : Flow → Shared → Prop} {R : Result → Shared → Prop} {target : Expr} {body : List Stmt} {I : Addr} {fp wr : List Addr} {n : Nat} {P : Nat → Value → Prop} {St : Nat → Heap → Prop}
    (hQ : ∀ f s', Q f s' → R (.ok f) s')
    (W : Walks prog w A I fp wr n P St) (hgo : ∀ i (s' : Shared) v (Q' : Unit → Shared → Prop) (E' : Value → Shared → Prop), P i v → St (i + 1) s'.heap → Q' () s' → wpAny (model prog w) A (letOwnedTupleGo target (.ref I) v) Q' E' s')
    (hwb : ∀ a ∈ wr, b.get? a = none) (hL : L ∉ fp) (z : Z b L m ld s.heap) (hin : ∀ a ∈ fp, (ld a).isSome = true) (hall : ∀ i h, St i h → ∀ a ∈ wr, (h.get? a).isSome = true) (hst : St 0 s.heap)
    (J : Nat → Loc → Ld → Prop) (hJ : ∀ i m ld ld', J i m ld → (∀ a, a ∉ wr → ld' a = ld a) → J i m ld') (h0 : J 0 m ld)
    (turn : ∀ i v m₁ lq h₁ tk₁, i < n → P i v → J i m₁ lq → (∀ a ∈ fp, (lq a).isSome = true) → Z b L m₁ lq h₁ →
      wpAny (model prog w) A (assign target env v) (fun _ s₂ => wpAny (model prog w) A (execs body env) (TurnPost b L fp (J (i + 1)) lq s Q) (fun _ _ => False) s₂) (fun _ _ => False) { s with heap := h₁, toks := tk₁ })
    (done : ∀ m₁ lq h₁ tk₁, J n m₁ lq → Z b L m₁ lq h₁ → Q .next { s with heap := h₁, toks := tk₁ }) :
    codeAny (model prog w) A (.forLoop target (.ref I) body [] env) R s := by
  have hLw : L ∉ wr := fun h => hL (W.sub _ h)
  refine codeAny_forLoop_any
    (fun k s' => ∃ h' tk m' ld' i, s' = { s with heap := h', toks := tk } ∧ St i h' ∧ Z b L m' ld' h' ∧ (∀ a ∈ fp, (ld' a).isSome = true) ∧ J i m' ld' ∧ i ≤ n ∧ k = n + 1 - i) ?_ (n + 1)
    ⟨s.heap, s.toks, m, ld, 0, rfl, hst, z, hin, h0, Nat.zero_le _, rfl⟩
  rintro k s' ⟨h', tk, m', ld', i, rfl, hst', z', hin', hJ', hi, rfl⟩
  by_cases hlt : i < n
  · refine W.item i _ _ _ hlt hst' fun v h₁ tk₁ hP hst₁ hk₁ => ?_
    have z₁ := z'.sees hLw hwb (fun a o q => hk₁ a o q)
    refine hgo i _ v _ _ hP hst₁ ?_
    have hin₁ : ∀ a ∈ fp, (sees wr h₁ ld' a).isSome = true := fun a ha => by
      unfold sees
      split
      · exact hall _ _ hst₁ a (by assumption)
      · exact hin' a ha
    refine wpAny_mono (turn i v m' _ h₁ _ hlt hP (hJ _ _ _ _ hJ' fun a ha => by unfold sees; rw [if_neg ha]) hin₁ z₁) (fun _ s₂ h₂ => wpAny_mono h₂ (fun f s₃ h₃ => ?_) fun _ _ x => x.elim) fun _ _ x => x.elim
    have fin : TurnEnd b L fp (J (i + 1)) (sees wr h₁ ld') s s₃ → ∃ m, m < n + 1 - i ∧ ∃ h' tk m' ld' i, s₃ = { s with heap := h', toks := tk } ∧ St i h' ∧ Z b L m' ld' h' ∧ (∀ a ∈ fp, (ld' a).isSome = true) ∧ J i m' ld' ∧ i ≤ n ∧ m = n + 1 - i := by
      rintro ⟨h₄, tk₃, m₂, lf, rfl, z₃, hJ₃, hfp₃⟩
      refine ⟨n + 1 - (i + 1), by omega, h₄, tk₃, m₂, lf, i + 1, rfl, W.frame _ _ _ hst₁ fun a ha o q => ?_, z₃, fun a ha => by rw [hfp₃ a ha]; exact hin₁ a ha, hJ₃, hlt, rfl⟩
      have : sees wr h₁ ld' a = some o := by
        unfold sees
        split
        · exact q
        · rename_i hw
          obtain ⟨o', ho'⟩ := Option.isSome_iff_exists.mp (hin' a ha)
          have := hk₁ a o' hw (z'.led _ _ ho')
          rw [q] at this; cases this; exact ho'
      exact z₃.led _ _ ((hfp₃ a ha).trans this)
    cases f with
    | ret v => exact hQ _ _ h₃
    | brk => exact hQ _ _ h₃
    | next => exact fin h₃
    | cont => exact fin h₃
  · have hin : i = n := by omega
    subst hin
    refine W.done _ _ _ hst' fun h₁ tk₁ hk₁ => wpAny_execs_nil (hQ _ _ ?_)
    have z₁ := z'.sees hLw hwb (fun a o q => hk₁ a o q)
    exact done m' _ h₁ tk₁ (hJ _ _ _ _ hJ' fun a ha => by unfold sees; rw [if_neg ha]) z₁

abbrev tupO (ys : List Value) : Obj := { cls := .type "tuple", data := .seq ys.toArray }

theorem tup_end {vs : List Value} {Q : Value → Shared → Prop} (z : Z b L m ld s.heap) (hsz : vs.length ≤ 10000) (h : ∀ D h', ld D = none → New b D → Z b L m (upd ld D (tupO vs)) h' → Q (.ref D) { s with heap := h' }) :
    vs.length ≤ sizeLine ∧ Q (.ref s.heap.objs.size) { s with heap := s.heap.push { cls := .type "tuple", data := .seq vs.toArray } } :=
  ⟨by rw [PySem.sizeLine_eq]; omega, h _ _ z.size_none z.bs.size (z.push (tupO vs))⟩
theorem lst_end {vs : List Value} {Q : Value → Shared → Prop} (z : Z b L m ld s.heap) (hsz : vs.length ≤ 10000) (h : ∀ D h', ld D = none → New b D → Z b L m (upd ld D (listOf vs.toArray 0)) h' → Q (.ref D) { s with heap := h' }) :
    vs.length ≤ sizeLine ∧ Q (.ref s.heap.objs.size) { s with heap := s.heap.push { cls := .type "list", data := .seq vs.toArray } } :=
  ⟨by rw [PySem.sizeLine_eq]; omega, h _ _ z.size_none z.bs.size (z.push (listOf vs.toArray 0))⟩

theorem ev_tuple {elts : List Expr} {k : Nat} {pos : Pos} {E : Value → Shared → Prop} {Q : Value → Shared → Prop}
    (h : wpAny (model prog w) A (spliced (backTo pos (starEach elts env))) (fun vs s₁ => ∃ m ld, Z b L m ld s₁.heap ∧ vs.length ≤ 10000 ∧ ∀ D h', ld D = none → New b D → Z b L m (upd ld D (tupO vs)) h' → Q (.ref D) { s₁ with heap := h' }) E s) :
    wpAny (model prog w) A (eval (.Tuple elts k pos) env) Q E s := wpAny_Tuple (wpAny_mono h (fun _ _ ⟨_, _, z, hs, q⟩ => tup_end z hs q) fun _ _ x => x)
theorem ev_list {elts : List Expr} {pos : Pos} {E : Value → Shared → Prop} {Q : Value → Shared → Prop}
    (h : wpAny (model prog w) A (spliced (backTo pos (starEach elts env))) (fun vs s₁ => ∃ m ld, Z b L m ld s₁.heap ∧ vs.length ≤ 10000 ∧ ∀ D h', ld D = none → New b D → Z b L m (upd ld D (listOf vs.toArray 0)) h' → Q (.ref D) { s₁ with heap := h' }) E s) :
    wpAny (model prog w) A (eval (.List elts pos) env) Q E s := wpAny_List (wpAny_mono h (fun _ _ ⟨_, _, z, hs, q⟩ => lst_end z hs q) fun _ _ x => x)

theorem go_tupleiter {elts : List Expr} {x1} {pos : Pos} {I l : Addr} {v : Value} {i : Nat} {E : Value → Shared → Prop} {Q : Unit → Shared → Prop} (hit : s.heap.IsTupleIter I l i) (hQ : Q () s) :
    wpAny (model prog w) A (letOwnedTupleGo (.Tuple elts x1 pos) (.ref I) v) Q E s := by
  obtain ⟨o, ho, hc, hd⟩ := hit
  cases v with
  | ref T =>
    unfold letOwnedTupleGo
    refine wpAny_bind (wpAny_load ho ?_)
    rw [hc, hd]
    show wpAny _ A (if (["enumerate", "zip", "dict_itemiterator", "dict_reverseitemiterator", "odict_iterator", "itertools.zip_longest", "itertools.pairwise"].contains "tuple_iterator" &&
        (#[.ref l, .int i 0] : Array Value)[0]? == some (rawInt T)) = true then _ else _) Q E s
    rw [if_neg (by
      intro h
      rw [show (["enumerate", "zip", "dict_itemiterator", "dict_reverseitemiterator", "odict_iterator", "itertools.zip_longest", "itertools.pairwise"].contains "tuple_iterator") = false from by decide, Bool.false_and] at h
      cases h)]
    exact wpAny_pure hQ
  | _ => exact wpAny_pure hQ
theorem go_listiter {elts : List Expr} {x1} {pos : Pos} {I l : Addr} {v : Value} {i : Nat} {E : Value → Shared → Prop} {Q : Unit → Shared → Prop} (hit : s.heap.IsListIter I l i) (hQ : Q () s) :
    wpAny (model prog w) A (letOwnedTupleGo (.Tuple elts x1 pos) (.ref I) v) Q E s := by
  cases v with
  | ref T => exact wpAny_letOwnedTupleGo_listiter hit hQ
  | _ => exact wpAny_pure hQ

/-- for .. in a tuple, any target -/
theorem iter_tupleA {Q : Flow → Shared → Prop} {elts : List Expr} {x1} {tp : Pos} {body : List Stmt} {ax : Addr} {items : List Value} {mm : Nat} (r : Room A mm)
    (z : Z b L m ld s.heap) (hax : ld ax = some (tupO items))
    (J : Addr → Nat → Loc → Ld → Prop)
    (h0 : ∀ I ld₁, ld I = none → (∀ a o, ld a = some o → ld₁ a = some o) → J I 0 m ld₁)
    (hJ : ∀ I, ld I = none → ∀ i m ld ld', J I i m ld → (∀ a, a ≠ I → ld' a = ld a) → J I i m ld')
    (turn : ∀ I oI i v m₁ lq h₁ tk₁, ld I = none → lq I = some oI → items[i]? = some v → J I i m₁ lq → lq ax = some (tupO items) → Z b L m₁ lq h₁ →
      wpAny (model prog w) A (assign (.Tuple elts x1 tp) env v) (fun _ s₂ => wpAny (model prog w) A (execs body env) (TurnPost b L [I, ax] (J I (i + 1)) lq s Q) (fun _ _ => False) s₂) (fun _ _ => False) { s with heap := h₁, toks := tk₁ })
    (done : ∀ m₁ lq h₁ tk₁ I, J I items.length m₁ lq → Z b L m₁ lq h₁ → Q .next { s with heap := h₁, toks := tk₁ }) :
    wpAny (model prog w) A (pyIter (.ref ax)) (fun it s₂ => codeAny (model prog w) A (.forLoop (.Tuple elts x1 tp) it body [] env) (fun r s' => match r with | .ok f => Q f s' | .error e => cameBackBy (model prog w) A env (fun _ _ => False) e s') s₂) (fun _ _ => False) s := by
  have hl : Heap.IsTuple s.heap ax items.toArray := ⟨_, z.led _ _ hax, rfl, _, rfl⟩
  refine wpAny_pyIter_tuple hl ?_
  have hne : ax ≠ s.heap.objs.size := ne_of_lt1 (Heap.lt_size (z.led _ _ hax))
  have z₂ := z.push { cls := .type "tuple_iterator", data := .fields #[.ref ax, .int 0 0] }
  have hI0 : ld s.heap.objs.size = none := z.size_none
  have hIb : b.get? s.heap.objs.size = none := New.none (b := b) (z.bs.size)
  refine loopA (s := { s with heap := s.heap.push _ }) (fp := [s.heap.objs.size, ax]) (wr := [s.heap.objs.size]) (Q := Q) (fun f s' q => q) (Walks.tuple (prog := prog) (w := w) r.handled s.heap.objs.size ax hne items.toArray) ?_ ?_ ?_ z₂ ?_ ?_ ?_
    (fun i m ld => J s.heap.objs.size i m ld ∧ ld ax = some (tupO items)) ?_ ?_ ?_ ?_
  · intro i s' v Q' E' _ hst q; exact go_tupleiter hst.1 q
  · intro a ha; rw [List.mem_singleton.mp ha]; exact hIb
  · intro hm
    rcases List.mem_cons.mp hm with q | q
    · exact absurd z.ns.lt (by rw [q]; exact Nat.lt_irrefl _)
    · exact z.neL hax (List.mem_singleton.mp q).symm
  · intro a ha
    rcases List.mem_cons.mp ha with q | q
    · rw [q, upd_self]; rfl
    · rw [List.mem_singleton.mp q, upd_ne hne, hax]; rfl
  · rintro i h' ⟨⟨o, ho, _⟩, _⟩ a ha
    rw [List.mem_singleton.mp ha, ho]; rfl
  · exact ⟨⟨_, Heap.get?_push_size _ rfl, rfl, rfl⟩, ⟨_, Heap.get?_push_of_some _ (z.led _ _ hax), rfl, _, rfl⟩⟩
  · rintro i m₁ l₁ l₂ ⟨j1, j2⟩ hk
    exact ⟨hJ _ hI0 i m₁ l₁ l₂ j1 fun a ha => hk a (fun q => ha (List.mem_singleton.mp q)), (hk ax fun q => hne (List.mem_singleton.mp q)).trans j2⟩
  · refine ⟨h0 _ _ hI0 fun a o q => ?_, (upd_ne hne).trans hax⟩
    rw [upd_ne (ne_of_lt1 (Heap.lt_size (z.led _ _ q)))]; exact q
  · rintro i v m₁ lq h₂ tk₂ hi hv ⟨j1, j2⟩ hin z₃
    obtain ⟨oI, hoI⟩ := Option.isSome_iff_exists.mp (hin s.heap.objs.size (by simp))
    refine wpAny_mono (turn s.heap.objs.size oI i v m₁ lq h₂ tk₂ hI0 hoI (by simpa using hv) j1 j2 z₃) (fun _ s₂ h₂ => wpAny_mono h₂ (fun f s' q => ?_) fun _ _ x => x) fun _ _ x => x
    have fin : TurnEnd b L [s.heap.objs.size, ax] (J s.heap.objs.size (i + 1)) lq s s' → TurnEnd b L [s.heap.objs.size, ax] (fun m ld => J s.heap.objs.size (i + 1) m ld ∧ ld ax = some (tupO items)) lq s s' := by
      rintro ⟨h₃, tk₃, m₃, lf, rfl, z₄, hj, hf⟩
      exact ⟨h₃, tk₃, m₃, lf, rfl, z₄, ⟨hj, (hf ax (by simp)).trans j2⟩, hf⟩
    cases f with
    | ret v => exact q
    | brk => exact q
    | next => exact fin q
    | cont => exact fin q
  · rintro m₁ lq h₂ tk₂ ⟨j1, _⟩ z₃
    exact done m₁ lq h₂ tk₂ _ (by simpa using j1) z₃
end
end Mine

namespace Mine

section
variable {prog : Program} {w : World} {A : Around} {E : Value → Shared → Prop} {s : Shared} {K : Frag} {mg mb : Str → Option Value} {b : Heap} {L : Addr} {m : Str → Option Value} {ld : Ld} {env : Env} {sc : Scope}

theorem Z.pushed {h' : Heap} {D : Addr} {o : Obj} (z : Z b L m ld s.heap) (hD : s.heap.get? D = none) (hDn : New b D) (hk : ∀ a o, s.heap.get? a = some o → h'.get? a = some o) (e : h'.get? D = some o) : Z b L m (upd ld D o) h' where
  ns := z.ns.keeps hk
  led := fun a o' q => by
    by_cases ha : a = D
    · subst ha; rw [upd_self] at q; cases q; exact e
    · rw [upd_ne ha] at q; exact hk _ _ (z.led _ _ q)
  fr := by
    rw [upd_ne fun e => by
      obtain ⟨oL, hL, _⟩ := LCg.ns_obj z.ns
      rw [e, hD] at hL; cases hL]
    exact z.fr
  base := fun a o' q => by
    rw [upd_ne fun e => by have := z.stays a o' q; rw [e, hD] at this; cases this]
    exact z.base _ _ q
  above := z.above

theorem sz_none {h : Heap} {a : Nat} (q : h.objs.size ≤ a) : h.get? a = none := by
  cases e : h.get? a with
  | none => rfl
  | some o => exact absurd (Heap.lt_size e) (Nat.not_lt.mpr q)

/-- list(x) of a list -/
theorem call_copy {l : Addr} {vs : List Value} {n : Nat} {Q : Value → Shared → Prop} (z : Z b L m ld s.heap) (hl : ld l = some (listOf vs.toArray n)) (hsz : vs.length ≤ 10000)
    (h : ∀ D h' c, ld D = none → New b D → Z b L m (upd ld D (listOf vs.toArray c)) h' → Q (.ref D) { s with heap := h' }) : wpAny (model prog w) A (call (.type "list") [.ref l]) Q E s :=
  call_list_seq (hsz := by rw [List.size_toArray, PySem.sizeLine_eq]; omega) l (.inl rfl) (z.led _ _ hl) rfl rfl fun h' c' hk hD => h _ h' c' z.size_none z.bs.size (z.pushed (sz_none (Nat.le_refl _)) z.bs.size hk hD)

/-- sorted(x) of a list of ints -/
theorem call_sorted {l : Addr} {vs : List Value} {ns : List Int} {n : Nat} {Q : Value → Shared → Prop} (z : Z b L m ld s.heap) (hl : ld l = some (listOf vs.toArray n)) (hi : IntsAre vs ns) (h64 : vs.length < 64)
    (h : ∀ D h' vs' ns' e, ld D = none → New b D → Z b L m (upd ld D (listOf vs'.toArray e)) h' → IntsAre vs' ns' → ns'.Perm ns → ns'.Pairwise (· ≤ ·) → Q (.ref D) { s with heap := h' }) :
    wpAny (model prog w) A (call (.builtin "sorted") [.ref l]) Q E s := by
  refine sorted_ints (z.isList hl) hi h64 fun out ns' a1 a2 a3 => ?_
  obtain ⟨e, he⟩ := sortedAll_at s.heap vs out
  exact h _ _ out.toList ns' e z.none1 (Nat.le_succ_of_le z.bs.size) (z.pushed (sz_none (Nat.le_succ _)) (Nat.le_succ_of_le z.bs.size) (fun _ _ => sortedAll_old) he) a1 a2 a3

theorem sorted_unique {a b c d : List Int} (hab : a.Perm b) (hcb : c.Perm d) (hbd : b.Perm d) (ha : a.Pairwise (· ≤ ·)) (hc : c.Pairwise (· ≤ ·)) : a = c :=
  List.Perm.eq_of_pairwise (fun x y _ _ h1 h2 => Int.le_antisymm h1 h2) ha hc (hab.trans (hbd.trans hcb.symm))

end
end Mine

namespace Mine
open PySem.Spec PySem.SeqAt

def rowD (ns : List Int) : PyData := .list (ns.map PyData.int)
theorem canLay_rows : ∀ nss : List (List Int), PyData.canLayAll0 (nss.map rowD) = true
  | [] => by simp [PyData.canLayAll0]
  | n :: r => by simp [PyData.canLayAll0, rowD, PyData.canLay0, canLayAll0_ints n, canLay_rows r]
theorem depth_rows : ∀ nss : List (List Int), PyData.depthAll (nss.map rowD) ≤ 2
  | [] => by simp [PyData.depthAll]
  | n :: r => by
    have h1 := depth_rows r
    have h2 := PySem.W.depthAll_ints n
    simp only [List.map_cons, PyData.depthAll, rowD, PyData.depth]
    omega
theorem shaped_rows (nss : List (List Int)) : shaped (.list (nss.map rowD)) = true := by
  have h1 := depth_rows nss
  have h2 : PyData.depth (.list (nss.map rowD)) ≤ 64 := by simp only [PyData.depth]; omega
  show (PyData.canLay0 (.list (nss.map rowD)) && decide (PyData.depth (.list (nss.map rowD)) ≤ 64)) = true
  rw [Bool.and_eq_true]
  exact ⟨by simp only [PyData.canLay0]; exact canLay_rows nss, decide_eq_true h2⟩
theorem noMix_rows : ∀ nss : List (List Int), noMixAll (nss.map rowD) (nss.map rowD) = true
  | [] => by simp [noMixAll]
  | n :: r => by simp [noMixAll, rowD, noMix, noMix_ints n n]; exact noMix_rows r
theorem same_rows : ∀ nss : List (List Int), PySem.Spec.sameAll (nss.map rowD) (nss.map rowD) = true
  | [] => by simp [PySem.Spec.sameAll]
  | n :: r => by
    simp only [List.map_cons, PySem.Spec.sameAll, rowD, PySem.Spec.same, same_ints n n, Bool.and_eq_true]
    exact ⟨by simp, same_rows r⟩

theorem readsAll_rows {h : Heap} : ∀ {ps : List Addr} {nss : List (List Int)}, ps.length = nss.length → (∀ (i : Nat) p ns, ps[i]? = some p → nss[i]? = some ns → ∃ vs : List Value, h.IsList p vs.toArray ∧ IntsAre vs ns) → ∃ as, ReadsAll h (ps.map Value.ref) (nss.map rowD) as
  | [], [], _, _ => ⟨[], .nil⟩
  | p :: ps, ns :: nss, hl, hr => by
    obtain ⟨vs, h1, h2⟩ := hr 0 p ns rfl rfl
    obtain ⟨as, ih⟩ := readsAll_rows (ps := ps) (nss := nss) (by simpa using hl) fun i q ms a b => hr (i + 1) q ms a b
    exact ⟨_, .cons (reads_of_ints h1 h2) ih⟩

section
variable {prog : Program} {w : World} {A : Around} {E : Value → Shared → Prop} {s : Shared}
theorem ne_rows {a b : Addr} {ps qs : List Addr} {nss : List (List Int)} {Q : Value → Shared → Prop} (ha : s.heap.IsList a (ps.map Value.ref).toArray) (hb : s.heap.IsList b (qs.map Value.ref).toArray) (hlp : ps.length = nss.length) (hlq : qs.length = nss.length)
    (hp : ∀ (i : Nat) p ns, ps[i]? = some p → nss[i]? = some ns → ∃ vs : List Value, s.heap.IsList p vs.toArray ∧ IntsAre vs ns) (hq : ∀ (i : Nat) p ns, qs[i]? = some p → nss[i]? = some ns → ∃ vs : List Value, s.heap.IsList p vs.toArray ∧ IntsAre vs ns)
    (hu : A.units + 64 < cLine) (h : Q (.bool false) s) : wpAny (model prog w) A (compareOp .NotEq (.ref a) (.ref b)) Q E s := by
  obtain ⟨as, ra⟩ := readsAll_rows hlp hp
  obtain ⟨bs, rb⟩ := readsAll_rows hlq hq
  obtain ⟨oa, hoa, ca, na, da⟩ := ha
  obtain ⟨ob, hob, cb, nb, db⟩ := hb
  refine ne_dataH_same (Reads.list hoa ca da (by simpa using ra)) (Reads.list hob cb db (by simpa using rb)) (shaped_rows nss) (shaped_rows nss) hu (by simp only [noMix]; exact noMix_rows nss) ?_
  simp only [PySem.Spec.same]
  rw [same_rows]; exact h
end
end Mine

namespace Mine
section
variable {prog : Program} {w : World} {A : Around} {E : Value → Shared → Prop} {s : Shared} {K : Frag} {mg mb : Str → Option Value} {b : Heap} {L : Addr} {m : Str → Option Value} {ld : Ld} {env : Env} {sc : Scope}
theorem lm_pop {l : Addr} {its : Array Value} {n : Nat} {pl : Sem Bool} {Q : Value × List Value → Shared → Prop} (z : Z b L m ld s.heap) (hl : ld l = some (listOf its n)) (h : Q (.builtin "list.pop", [.ref l]) s) :
    wpAny (model prog w) A (getMethod (.ref l) "pop" pl) Q E s :=
  getMethod_builtin ⟨_, z.led _ _ hl, rfl⟩ PySem.F.plainAttrs_list PySem.F.slot_list_pop PySem.F.type_list_pop (fun a e => by cases e; exact ⟨_, z.led _ _ hl, rfl⟩) h
theorem l_pop {l : Addr} {p : List Value} {y : Value} {n : Nat} {Q : Value → Shared → Prop} (z : Z b L m ld s.heap) (hl : ld l = some (listOf (p ++ [y]).toArray n)) (hn : New b l) (hz : p.length ≤ 1000)
    (h : ∀ h', Z b L m (upd ld l (listOf p.toArray (n + 1))) h' → Q y { s with heap := h' }) : wpAny (model prog w) A (call (.builtin "list.pop") [.ref l]) Q E s := by
  have hz' : (p ++ [y]).toArray.size ≤ sizeLine := by rw [List.size_toArray, List.length_append, PySem.sizeLine_eq]; simp; omega
  have hk : (p ++ [y]).toArray.size - 1 = p.length := by rw [List.size_toArray, List.length_append]; rfl
  have hy : (p ++ [y]).toArray[(p ++ [y]).toArray.size - 1]? = some y := by rw [hk]; simp
  refine call_meets PySem.F.slot_list_pop ⟨_, z.led _ _ hl, rfl⟩ PySem.F.entry_list_pop (PySem.F.args_list_pop_1 _) (PySem.MeetsSeq.list_pop_last l _ n y hy hz') ⟨z.led _ _ hl, h _ (z.sameBut hl (New.none hn) (Heap.SameBut.update ..) ?_)⟩
  have q := PySem.IsL.update (z.led _ _ hl) (fun xs => xs.eraseIdxIfInBounds ((p ++ [y]).toArray.size - 1))
  have he : (p ++ [y]).toArray.eraseIdxIfInBounds ((p ++ [y]).toArray.size - 1) = p.toArray := by rw [hk, kl_erase, List.append_nil]
  rw [he, if_neg (by rw [List.size_toArray, List.size_toArray, List.length_append]; simp)] at q
  exact q
end
end Mine

namespace Mine
section
variable {prog : Program} {w : World} {A : Around} {E : Value → Shared → Prop} {s : Shared} {K : Frag} {mg mb : Str → Option Value} {b : Heap} {L : Addr} {m : Str → Option Value} {ld : Ld} {env : Env} {sc : Scope}
/-- x.lits[:k] -/
theorem ev_aupto {x : Str} {at' : Str} {px pa p1 p2 p3 : Pos} {l : Addr} {vs : List Value} {n k : Nat} {j : Nat} {Q : Value → Shared → Prop} (hsz : vs.length ≤ 1000)
    (hg : ∀ Q' : Value → Shared → Prop, (∀ tk, Q' (.ref l) { s with toks := tk }) → wpAny (model prog w) A (eval (.Attribute (.Name x px) at' pa) env) Q' E s)
    (z : Z b L m ld s.heap) (hl : ld l = some (listOf vs.toArray n))
    (h : ∀ a h' tk, ld a = none → Z b L m (upd ld a (listOf (vs.take k).toArray 0)) h' → Q (.ref a) { s with heap := h', toks := tk }) :
    wpAny (model prog w) A (eval (.Subscript (.Attribute (.Name x px) at' pa) (.Slice none (some (.Constant (.int k) j p1)) none p2) p3) env) Q E s := by
  refine Subscript_ (hg _ fun tk => ?_)
  refine wpAny_Slice (evalPart_none_step (evalPart_some_step (wpAny_Constant_int (evalPart_none_step ?_))))
  refine kba_turn (value' := .Name "_" ⟨0, 0, 0, 0⟩) (fun _ => rfl) ?_
  refine slice_listK (s := { s with toks := tk + 1 }) (z.isList hl) .none (.int k tk) ?_ (hsz := by rw [List.size_toArray]; exact Nat.le_trans hsz (by decide))
  have z1 := z.push { cls := .type "slice", data := .fields #[.none, .int k tk, .none] }
  have z2 := z1.push { cls := .type "list", data := .seq (slicePick vs.toArray none (some k) none) }
  rw [Heap.size_push] at z2
  refine h _ _ _ ?_ (z2.mono (fun a o q => ?_) fun a o q => ?_)
  · exact z.none1
  · by_cases q1 : a = s.heap.objs.size + 1
    · subst q1; rw [upd_self] at q ⊢; rw [← q, slicePick_upto']
    · rw [upd_ne q1] at q ⊢
      rw [upd_ne (ne_of_lt1 (z.lt q))]; exact q
  · rw [upd_ne (ne_of_lt2 (z.blt q))]; exact z.base _ _ q
end
end Mine

namespace Mine
def cutBy {α : Type} (k : Option Nat) (l : List α) : List α := k.elim l fun k => l.take k
section
variable {w : World} {A : Around} {E : Value → Shared → Prop} {s : Shared} {mg mb : Str → Option Value} {b : Heap} {L : Addr} {m : Loc} {ld : Ld} {env : Env} {sc : Scope}

set_option maxHeartbeats 1000000 in
theorem cllen_spec {c d l : Addr} {v1 v2 : Value} {lits : List Int} {Q : Value → Shared → Prop}
    (C : Cx (KK w) mg mb b) (hB : Bs b s.heap) (r : Room A 1) (hc : Cl s.heap.get? c d l v1 v2 lits) (hlen : lits.length ≤ 1000)
    (h : ∀ h' tk t, Led s.heap.get? h' → Q (.int lits.length t) { s with heap := h', toks := tk }) :
    wpAny (model PP w) A (call (.ref 70) [.ref c]) Q E s := by
  refine enter (n := 0) C hB r rfl rfl rfl (BindsTo.of_eq rfl) rfl rfl rfl rfl rfl rfl rfl rfl ?_
  intro A' env L h₁ tk r' e z
  dsimp only at e
  obtain ⟨h1, h2, h3, t1, t2, t3, n, hd⟩ := hc.dict
  obtain ⟨vs, ln, hl, hi⟩ := hc.list
  refine wpAny_execs_cons (wpAny_Return_some (Call_ (ev_bi e C z rfl boot_len (PyProof.Rows.callWith_builtin1 (args_cons ?_)))))
  refine Attribute_Name_ (ev_loc e z rfl (ga_own C z hc.inst hd rfl rfl rfl rfl rfl (args_nil ?_)))
  refine call_len_list (z.isList hl) (by rw [List.size_toArray, hi.length]; omega) ?_
  rw [show (vs.toArray.size : Int) = lits.length by rw [List.size_toArray, hi.length]]
  exact h _ _ _ z.led

/-- row[k] -/
theorem clitem_spec {c d l : Addr} {v1 v2 : Value} {lits : List Int} {k : Int} {u : Tok} {v : Int} {Q : Value → Shared → Prop}
    (C : Cx (KK w) mg mb b) (hB : Bs b s.heap) (r : Room A 1) (hc : Cl s.heap.get? c d l v1 v2 lits) (hk : lits[k.toNat]? = some v) (h0 : 0 ≤ k) (h1 : k < 1000)
    (h : ∀ h' tk t, Led s.heap.get? h' → Q (.int v t) { s with heap := h', toks := tk }) :
    wpAny (model PP w) A (call (.ref 77) [.ref c, .int k u]) Q E s := by
  refine enter (n := 0) C hB r rfl rfl rfl (BindsTo.of_eq rfl) rfl rfl rfl rfl rfl rfl rfl rfl ?_
  intro A' env L h₁ tk r' e z
  dsimp only at e
  obtain ⟨g1, g2, g3, t1, t2, t3, n, hd⟩ := hc.dict
  obtain ⟨vs, ln, hl, hi⟩ := hc.list
  refine wpAny_execs_cons (wpAny_Return_some (Subscript_ (Attribute_Name_ (ev_loc e z rfl (ga_own C z hc.inst hd rfl rfl rfl rfl rfl (ev_loc e z rfl ?_))))))
  refine kba_turn (value' := .Name "_" ⟨0, 0, 0, 0⟩) (fun _ => rfl) ?_
  exact it_int z hl hi hk h0 h1 fun t => h _ _ _ z.led

/-- row[:k] (k a number) and row[:] (none), behind the slice -/
theorem clcut_spec {c d l sl : Addr} {v1 v2 vu : Value} {lits : List Int} {hi' : Option Nat} {Q : Value → Shared → Prop}
    (C : Cx (KK w) mg mb b) (hB : Bs b s.heap) (r : Room A 1) (hc : Cl s.heap.get? c d l v1 v2 lits) (hlen : lits.length ≤ 1000) (hsl : s.heap.IsSliceOf sl .none vu .none) (hvu : IsPart vu (hi'.map fun k : Nat => (k : Int)))
    (h : ∀ D h' tk vs, s.heap.get? D = none → New b D → Led (upd s.heap.get? D (listOf vs.toArray 0)) h' → IntsAre vs (cutBy hi' lits) → Q (.ref D) { s with heap := h', toks := tk }) :
    wpAny (model PP w) A (call (.ref 77) [.ref c, .ref sl]) Q E s := by
  refine enter (n := 0) C hB r rfl rfl rfl (BindsTo.of_eq rfl) rfl rfl rfl rfl rfl rfl rfl rfl ?_
  intro A' env L h₁ tk r' e z
  dsimp only at e
  obtain ⟨g1, g2, g3, t1, t2, t3, n, hd⟩ := hc.dict
  obtain ⟨vs, ln, hl, hi⟩ := hc.list
  have hsz : vs.toArray.size ≤ sizeLine := by rw [List.size_toArray, hi.length, sizeLine_eq]; omega
  refine wpAny_execs_cons (wpAny_Return_some (Subscript_ (Attribute_Name_ (ev_loc e z rfl (ga_own C z hc.inst hd rfl rfl rfl rfl rfl (ev_loc e z rfl ?_))))))
  refine kba_turn (value' := .Name "_" ⟨0, 0, 0, 0⟩) (fun _ => rfl) ?_
  have hsl' : h₁.IsSliceOf sl .none vu .none := by obtain ⟨o, q1, q2⟩ := hsl; exact ⟨o, z.led _ _ q1, q2⟩
  refine subscriptTail_ops (z.isList hl).typeIs list_getitem_lookup (wpAny_getItem_list_slice (z.isList hl) hsl' .none hvu .none (by simp) ?_ hsz) (by with_unfolding_all rfl) (by intro _; with_unfolding_all rfl)
  have z' := z.push (listOf (cutBy hi' vs).toArray 0)
  refine h h₁.objs.size _ _ (cutBy hi' vs) ?_ z.bs.size ?_ ?_
  · exact z.size_none
  · have hpick : slicePick vs.toArray none (hi'.map fun k : Nat => (k : Int)) none = (cutBy hi' vs).toArray := by
      cases hi' with
      | none => rw [Option.map_none, slicePick_plain]; simp [cutBy, Option.elim]
      | some k => exact slicePick_upto' _ _
    rw [hpick]; exact z'.led
  · cases hi' with
    | none => exact hi
    | some k => exact hi.take k
end
end Mine

namespace Mine
def Wi (k : Int) : Prop := k ≠ 0 ∧ -5 ≤ k ∧ k ≤ 5
def Wish (ns : List Int) : Prop := ∀ k ∈ ns, Wi k
theorem Wish.snoc {ns : List Int} {k : Int} (h : Wish ns) (hk : Wi k) : Wish (ns ++ [k]) := fun x hx => by
  rcases List.mem_append.mp hx with q | q
  · exact h x q
  · rw [List.mem_singleton.mp q]; exact hk
theorem wi_of (n : Int) : Wi (if decide (n.fmod 10 < 5) = true then n.fmod 10 + 1 else 4 - n.fmod 10) := by
  have a1 := Int.fmod_nonneg_of_pos n (b := 10) (by decide)
  have a2 := Int.fmod_lt_of_pos n (b := 10) (by decide)
  unfold Wi
  split
  · rename_i h; have := of_decide_eq_true h; omega
  · rename_i h; have : ¬ n.fmod 10 < 5 := fun q => h (decide_eq_true q); omega
section
variable {w : World} {A : Around} {E : Value → Shared → Prop} {s : Shared} {mg mb : Str → Option Value} {b : Heap} {L : Addr} {m : Loc} {ld : Ld} {env : Env} {sc : Scope}

/-- one + 1 if one < 5 else 4 - one -/
theorem ev_wish {x : Str} {n : Int} {t : Tok} {px p1 p2 p3 p4 p5 p6 p7 p8 : Pos} {k1 k2 k3 : Nat} {Q : Value → Shared → Prop} (e : EnvIs env sc L) (z : Z b L m ld s.heap) (hx : m x = some (.int (n.fmod 10) t))
    (h : ∀ k u tk, Wi k → Q (.int k u) { s with toks := tk }) (hl : sc.names.lookup x = some .local := by rfl) (hd : (x == ("__debug__" : Str)) = false := by decide) :
    wpAny (model PP w) A (eval (.IfExp (.Compare (.Name x px) [.Lt] [.Constant (.int 5) k1 p1] p2) (.BinOp (.Name x p3) .Add (.Constant (.int 1) k2 p4) p5) (.BinOp (.Constant (.int 4) k3 p6) .Sub (.Name x p7) p8) pos) env) Q E s := by
  refine wpAny_IfExp (wpAny_isTrue_Compare1 (ev_loc e z hx (wpAny_Constant_int (lt_int (wpAny_truthy_bool ?_))) hl hd))
  have hw := wi_of n
  by_cases h5 : n.fmod 10 < 5
  · rw [if_pos (decide_eq_true h5)] at hw ⊢
    exact wpAny_BinOp (ev_loc e z hx (wpAny_Constant_int (add_int (h _ _ _ hw))) hl hd)
  · rw [if_neg (by rw [decide_eq_false h5]; decide)] at hw ⊢
    exact wpAny_BinOp (wpAny_Constant_int (ev_loc e z hx (sub_int (h _ _ _ hw)) hl hd))

set_option maxHeartbeats 1000000 in
theorem wishes_spec {nu pl : Int} {tn tp : Tok} {Q : Value → Shared → Prop} (C : Cx (KK w) mg mb b) (hB : Bs b s.heap) (r : Room A 1)
    (h : ∀ h' tk D ys ks ld', Led ld' h' → (∀ a o, s.heap.get? a = some o → ld' a = some o) → s.heap.get? D = none → New b D → ld' D = some (lstO ys) → IntsAre ys ks → Wish ks → 2 ≤ ks.length → ks.length ≤ 4 → Q (.ref D) { s with heap := h', toks := tk }) :
    wpAny (model PP w) A (call (.ref 265) [.int nu tn, .int pl tp]) Q E s := by
  refine enter (n := 0) C hB r rfl rfl rfl (BindsTo.of_eq rfl) rfl rfl rfl rfl rfl rfl rfl rfl ?_
  intro A' env L h₁ tk r' e z
  dsimp only at e
  have f1 := Int.fmod_nonneg_of_pos nu (b := 3) (by decide)
  have f2 := Int.fmod_lt_of_pos nu (b := 3) (by decide)
  obtain ⟨n, hn⟩ := Int.eq_ofNat_of_zero_le (show 0 ≤ 2 + nu.fmod 3 by omega)
  have n2 : 2 ≤ n := by omega
  have n4 : n ≤ 4 := by omega
  refine wpAny_execs_cons (wpAny_Assign_Name (ev_nil z fun D h₂ hD hDn z => st_loc e z fun h₃ z => ?_))
  dsimp only
  refine wpAny_execs_cons (wpAny_For (Call_ (ev_bi e C z rfl boot_range (Pv.callWith_type1 (args_cons (wpAny_BinOp (wpAny_Constant_int (wpAny_BinOp (ev_loc e z rfl (wpAny_Constant_int (mod_int' (by decide) (add_int (args_nil ?_)))))))))))) (by intro _; rfl))
  refine iter_range r' e z hn (Nat.le_trans n4 (by decide)) (fun i m l' => m "wishes" = some (.ref D) ∧ m "number" = some (.int nu tn) ∧ m "place" = some (.int pl tp) ∧ (∀ a o, s.heap.get? a = some o → l' a = some o) ∧
    ∃ ys ks, l' D = some (lstO ys) ∧ IntsAre ys ks ∧ Wish ks ∧ ks.length = i) ?_ ?_ ?_ ?_
  · intro ld₁ q
    exact ⟨rfl, rfl, rfl, fun a o qa => q a o (upd_old hD qa), [], [], q _ _ upd_self, .nil, fun _ h => (nomatch h), rfl⟩
  · rintro I hI i m₁ l₁ l₂ ⟨q1, q2, q3, q4, ys, ks, q5, q6, q7, q8⟩ q9
    refine ⟨q1, q2, q3, fun a o qa => ?_, ys, ks, ?_, q6, q7, q8⟩
    · rw [q9 a (fun e => by rw [← e, upd_old hD qa] at hI; cases hI)]; exact q4 a o qa
    · rw [q9 D (fun e => by rw [← e, upd_self] at hI; cases hI)]; exact q5
  · rintro I oI i t m₁ lq h₄ tk₄ hI hqI hi4 ⟨q1, q2, q3, q4, ys, ks, q5, q6, q7, q8⟩ z
    have hm (x : Str) (hx : x ≠ "step") : (if x = "step" then some (Value.int i t) else m₁ x) = m₁ x := if_neg hx
    have hp : (0 : Int) < 10 ^ i := Int.pow_pos (by decide)
    have hp2 : ((10 : Int) ^ i).natAbs < 1073741824 := by
      rw [Int.natAbs_pow]
      exact Nat.lt_of_le_of_lt (Nat.pow_le_pow_right (by decide) (show i ≤ 4 by omega)) (by decide)
    refine wpAny_execs_cons (wpAny_Assign_Name (wpAny_BinOp (wpAny_BinOp (wpAny_BinOp (wpAny_BinOp (wpAny_BinOp (ev_loc e z ((hm _ (by decide)).trans q2) ?_)))))))
    refine wpAny_Constant_int (floordiv_int (by decide) (wpAny_BinOp (wpAny_Constant_int (ev_loc e z rfl (pow_int_small (by omega) (by omega) (by decide) ?_)))))
    rw [Int.toNat_natCast]
    refine floordiv_int (Int.ne_of_gt hp) ?_ (hp := .inl (PyProof.noPylong_small hp2))
    refine wpAny_BinOp (ev_loc e z ((hm _ (by decide)).trans q3) (wpAny_BinOp (ev_loc e z rfl (wpAny_Constant_int (add_int (mul_int (add_int ?_)))))))
    refine wpAny_BinOp (wpAny_Constant_int (ev_loc e z rfl (mul_int (add_int (wpAny_Constant_int (mod_int' (by decide) (st_loc e z fun h₅ z => ?_)))))))
    refine wpAny_execs_cons (ex_flat e (MethodCall_ (ev_loc e z q1 (lm_append z q5 (callWith_method1 (args_cons (ev_wish e z rfl fun k u tk hk => args_nil ?_)))))))
    refine l_append z q5 hDn (by rw [q6.length]; omega) fun h₆ z => ⟨fun _ q => (nomatch q), ?_⟩
    refine wpAny_execs_nil ⟨_, _, _, _, rfl, z, ⟨q1, q2, q3, fun a o qa => ?_, ys ++ [.int k u], ks ++ [k], ?_, q6.append (.cons _ _ .nil), q7.snoc hk, by rw [List.length_append, q8]; rfl⟩, fun a ha => ?_⟩
    · rw [upd_ne (fun e => by rw [e, hD] at qa; cases qa)]; exact q4 a o qa
    · rw [upd_self, lstO, List.length_append]; rfl
    · rw [List.mem_singleton.mp ha]; exact upd_ne (fun e => by rw [e, upd_self] at hI; cases hI)
  · rintro m₁ lq h₄ tk₄ ⟨q1, q2, q3, q4, ys, ks, q5, q6, q7, q8⟩ z
    refine wpAny_execs_cons (wpAny_Return_some (ev_loc e z q1 ?_))
    exact h h₄ tk₄ D ys ks lq z.led q4 hD hDn q5 q6 q7 (by omega) (by omega)
end
end Mine

namespace Mine
section
variable {w : World} {A : Around} {E : Value → Shared → Prop} {s : Shared} {mg mb : Str → Option Value} {b : Heap} {L : Addr} {m : Loc} {ld : Ld} {env : Env} {sc : Scope}
/-- what p is -/
def isOr (v : Value) (u : Option Int) : Prop := match u with | none => v = .none | some k => ∃ t, v = .int k t
def neU (u : Option Int) (k : Int) : Bool := match u with | none => true | some j => k != j
/-- [-x for x in lits if x != u] -/
def reasonOf (lits : List Int) (u : Option Int) : List Int := (lits.filter (neU u)).map fun k => -k

set_option maxHeartbeats 1000000 in
theorem reason_spec {c d l : Addr} {v1 v2 : Value} {lits : List Int} {u : Option Int} {v : Value} {pos : List Value} {Q : Value → Shared → Prop}
    (C : Cx (KK w) mg mb b) (hB : Bs b s.heap) (r : Room A 1) (hc : Cl s.heap.get? c d l v1 v2 lits) (hlen : lits.length ≤ 1000) (hv : isOr v u) (hpos : pos = [.ref c] ∧ u = none ∨ pos = [.ref c, v])
    (h : ∀ h' tk D ys ld', Led ld' h' → (∀ a o, s.heap.get? a = some o → ld' a = some o) → s.heap.get? D = none → New b D → ld' D = some (lstO ys) → IntsAre ys (reasonOf lits u) → Q (.ref D) { s with heap := h', toks := tk }) :
    wpAny (model PP w) A (call (.ref 63) pos) Q E s := by
  have hX := C.X.keeps hB.stays
  have go : BindsTo s (match (KK w).lookup 63 with | some ⟨_, _, .func fd, _⟩ => fd | _ => default) ⟨pos, []⟩ [("self", .ref c), ("p", v)] := by
    rcases hpos with ⟨rfl, rfl⟩ | rfl
    · obtain rfl : v = .none := hv
      exact binds_K hX rfl rfl rfl rfl rfl
    · exact binds_K hX rfl rfl rfl rfl rfl
  refine enterX (n := 0) C hB r rfl rfl rfl go rfl rfl rfl rfl rfl rfl rfl ?_
  intro A' env L ld h₁ tk r' e hcs hL hL0 z hk hcell _
  dsimp only at e hcs
  have hcs' : env.cells = [(("p" : Str), L + 1)] := hcs
  have hce : env.cells.lookup ("p" : Str) = some (L + 1) := by rw [hcs']; rfl
  obtain ⟨hwv, hw0, hwn⟩ := hcell "p" (L + 1) hce
  obtain ⟨h1, h2, h3, t1, t2, t3, n, hd⟩ := hc.dict
  obtain ⟨vs, ln, hl, hi⟩ := hc.list
  refine wpAny_execs_cons (wpAny_Return_some (lc hcs' rfl (Attribute_Name_ (ev_loc e z rfl (ga_own C z (hk _ _ hc.inst) (hk _ _ hd) rfl rfl rfl rfl rfl ?_)))))
  refine lc_ints (neU u) (fun k => -k) r' e z (hk _ _ hl) hi (by rw [hi.length]; omega) ?_ ?_ ?_
  · intro C' k t m₁ lq h₂ tk₂ hs hkn eC z'
    refine wpAny_tests_one (wpAny_isTrue_Compare1 (ev_loc eC z' (v := .int k t) (if_pos rfl) ?_))
    have hv' : CellIs lq (L + 1) (some v) := by obtain ⟨o, a1, a2⟩ := hwv; exact ⟨o, hs _ _ a1, a2⟩
    refine ev_cell eC rfl z' hv' ?_
    cases u with
    | none =>
      obtain rfl : v = .none := hv
      exact EqNone.ne_int_none (wpAny_truthy_bool ⟨rfl, _, _, rfl, z'⟩)
    | some j =>
      obtain ⟨t', rfl⟩ := hv
      exact ne_int (wpAny_truthy_bool ⟨rfl, _, _, rfl, z'⟩)
  · intro C' k t m₁ lq h₂ tk₂ eC z'
    exact wpAny_UnaryOp (ev_loc eC z' (v := .int k t) (if_pos rfl) (neg_int ⟨_, _, rfl, rfl⟩))
  · intro D C' ys lq mC h₂ tk₂ hD hDn hs hys hqD z' hC' hLC hns
    refine post_plain z' hC' hLC hns fun h₃ z₃ => ?_
    refine h _ _ D ys lq z₃.led (fun a o q => hs _ _ (hk _ _ q)) ?_ hDn hqD hys
    cases q : s.heap.get? D with
    | none => rfl
    | some o => rw [hk _ _ q] at hD; cases hD
end
end Mine

namespace Mine
section
variable {prog : Program} {w : World} {A : Around} {E : Value → Shared → Prop} {s : Shared} {K : Frag} {mg mb : Str → Option Value} {b : Heap} {L : Addr} {m : Str → Option Value} {ld : Ld} {env : Env} {sc : Scope}
theorem Room.in1 {n : Nat} (r : Room A (n + 1)) : Room A.in1 n := ⟨r.handled, by have := r.depth; show A.depth + n ≤ 900; omega, by have := r.units; show A.units + 1 + 10 * n ≤ 9000; omega⟩
theorem Room.unit64 {n : Nat} (r : Room A n) : A.units + 64 < cLine := by have := r.units; show A.units + 64 < 9900; omega

theorem draw_list {it l : Addr} {items : Array Value} (hne : l ≠ it) : ∀ (n i : Nat) (s : Shared) (Q : List Value → Shared → Prop), s.heap.IsListIter it l i → s.heap.IsList l items → i + n ≤ items.size →
    (∀ h', h'.IsListIter it l (i + n) → Heap.SameBut it s.heap h' → Q ((items.toList.drop i).take n) { s with heap := h' }) → wpAny (model prog w) A (draw (.ref it) n) Q E s
  | 0, i, s, Q, hit, _, _, hQ => by
    show wpAny _ _ (pure []) Q E s
    exact wpAny_pure (by simpa using hQ s.heap hit (Heap.SameBut.refl ..))
  | n + 1, i, s, Q, hit, ht, hle, hQ => by
    have hlt : i < items.size := by omega
    show wpAny _ _ (pyNext (.ref it) >>= _) Q E s
    refine wpAny_bind (wpAny_pyNext_list_item hit ht (x := items[i]) (by simp [hlt]) fun h₁ hit₁ hs₁ => ?_)
    refine wpAny_bind (wpAny_holding (draw_list hne n (i + 1) _ _ hit₁ (ht.extBut hs₁.extBut hne) (by omega) fun h₂ hit₂ hs₂ => wpAny_pure ?_))
    have hd : items.toList.drop i = items[i] :: items.toList.drop (i + 1) := by simp [List.drop_eq_getElem_cons, hlt]
    have := hQ h₂ (by rw [show i + (n + 1) = i + 1 + n by omega]; exact hit₂) (hs₁.trans hs₂)
    rw [hd, List.take_succ_cons] at this
    exact this

/-- x, y, .. = a list -/
theorem as_unpack {elts : List Expr} {x1} {pos : Pos} {l : Addr} {vs : List Value} {n : Nat} {Q : Unit → Shared → Prop} (hh : A.handled = none) (z : Z b L m ld s.heap) (hl : ld l = some (listOf vs.toArray n))
    (hn : (assignEach elts env).length = vs.length) (hstar : (assignEach elts env).findIdx? (·.1) = none)
    (h : ∀ h', Z b L m ld h' → wpAny (model prog w) A (assignInOrder ((assignEach elts env).map (·.2)) vs) Q E { s with heap := h' }) :
    wpAny (model prog w) A (assign (.Tuple elts x1 pos) env (.ref l)) Q E s := by
  have ht := z.isList hl
  have hlt : l ≠ s.heap.objs.size := ne_of_lt1 (Heap.lt_size (z.led _ _ hl))
  rw [arm_assign_Tuple]
  refine wpAny_bind (wpAny_standAt ?_)
  unfold unpack
  rw [hn, hstar]
  refine wpAny_bind (wpAny_holding ?_)
  unfold unpackItems
  refine wpAny_bind ?_
  unfold notIterableAtAll
  refine wpAny_bind (wpAny_specialOf ht.typeIs slot_list_iter.lookup ?_)
  refine wpAny_pure ?_
  simp only [Bool.false_eq_true, if_false]
  refine wpAny_bind (wpAny_holding (wpAny_pyIter_list ht ?_))
  refine wpAny_bind (wpAny_holding (draw_list hlt vs.length 0 _ _ ⟨_, Heap.get?_push_size _ rfl, rfl, rfl⟩ (ht.push _) (by simp) fun h₁ hit₁ hs₁ => ?_))
  have hall : List.take vs.length (List.drop 0 vs.toArray.toList) = vs := by rw [List.drop_zero]; exact List.take_of_length_le (by simp)
  rw [hall]
  rw [if_neg (by simp)]
  have ht₁ : h₁.IsList l vs.toArray := (ht.push _).extBut hs₁.extBut hlt
  refine wpAny_bind (wpAny_holding (wpAny_pyNext_list_end hh hit₁ ht₁ (by simp) fun h₂ he₂ => ?_))
  simp only [Option.isSome_none, Bool.false_eq_true, if_false]
  refine wpAny_pure (h h₂ (z.ext fun a o e => ?_))
  have hb : a ≠ s.heap.objs.size := ne_of_lt1 (Heap.lt_size e)
  exact he₂ a o hb (hs₁.extBut a o hb (Heap.get?_push_of_some _ e))

/-- x + y of lists -/
theorem l_add {l k : Addr} {vs us : List Value} {n n' : Nat} {Q : Value → Shared → Prop} (z : Z b L m ld s.heap) (hl : ld l = some (listOf vs.toArray n)) (hk : ld k = some (listOf us.toArray n')) (h1 : vs.length ≤ 1000) (h2 : us.length ≤ 1000)
    (h : ∀ D h', ld D = none → New b D → Z b L m (upd ld D (listOf (vs ++ us).toArray 0)) h' → Q (.ref D) { s with heap := h' }) : wpAny (model prog w) A (binaryOp .Add (.ref l) (.ref k)) Q E s := by
  refine P.add_list (z.led _ _ hl) (z.led _ _ hk) ?_ (by rw [List.size_toArray, List.size_toArray, PySem.sizeLine_eq]; omega)
  rw [List.append_toArray]
  exact h _ _ z.size_none z.bs.size (z.push (listOf (vs ++ us).toArray 0))

/-- while: P is kept, the measure falls -/
theorem ex_while {test : Expr} {body : List Stmt} {pos : Pos} {Q : Flow → Shared → Prop} (J : Nat → Loc → Ld → Prop) (k : Nat) (z : Z b L m ld s.heap) (h0 : J k m ld)
    (turn : ∀ n m₁ l₁ h₁ tk₁, J n m₁ l₁ → Z b L m₁ l₁ h₁ → wpAny (model prog w) A (isTrue test env (eval test env)) (fun c s₂ =>
      if c then wpAny (model prog w) A (execs body env) (fun f s₃ => match f with
          | .next | .cont => ∃ n' h₂ tk₂ m₂ l₂, n' < n ∧ s₃ = { s with heap := h₂, toks := tk₂ } ∧ Z b L m₂ l₂ h₂ ∧ J n' m₂ l₂
          | .brk => Q .next s₃
          | .ret v => Q (.ret v) s₃) (fun _ _ => False) s₂
      else Q .next s₂) (fun _ _ => False) { s with heap := h₁, toks := tk₁ }) :
    wpAny (model prog w) A (exec (.While test body [] pos) env) Q (fun _ _ => False) s := by
  refine wpAny_While (codeAny_whileLoop (fun n s' => ∃ h₁ tk₁ m₁ l₁, s' = { s with heap := h₁, toks := tk₁ } ∧ Z b L m₁ l₁ h₁ ∧ J n m₁ l₁) ?_ k ⟨_, _, _, _, rfl, z, h0⟩)
  rintro n s' ⟨h₁, tk₁, m₁, l₁, rfl, z₁, j₁⟩
  refine wpAny_mono (turn n m₁ l₁ h₁ tk₁ j₁ z₁) (fun c s₂ q => ?_) fun _ _ x => x.elim
  cases c with
  | false => exact wpAny_execs_nil q
  | true =>
    simp only [if_true] at q ⊢
    refine wpAny_mono q (fun f s₃ q' => ?_) fun _ _ x => x.elim
    have go : (∃ n' h₂ tk₂ m₂ l₂, n' < n ∧ s₃ = { s with heap := h₂, toks := tk₂ } ∧ Z b L m₂ l₂ h₂ ∧ J n' m₂ l₂) → ∃ k, k < n ∧ ∃ h₁ tk₁ m₁ l₁, s₃ = { s with heap := h₁, toks := tk₁ } ∧ Z b L m₁ l₁ h₁ ∧ J k m₁ l₁ :=
      fun ⟨n', h₂, tk₂, m₂, l₂, a1, a2, a3, a4⟩ => ⟨n', a1, h₂, tk₂, m₂, l₂, a2, a3, a4⟩
    cases f with
    | next => exact go q'
    | cont => exact go q'
    | brk => exact q'
    | ret v => exact q'
end
end Mine

namespace Mine
section
variable {w : World} {A : Around} {E : Value → Shared → Prop} {s : Shared} {mg mb : Str → Option Value} {b : Heap} {L : Addr} {m : Loc} {ld : Ld} {env : Env} {sc : Scope}

set_option maxHeartbeats 1000000 in
theorem lt_raises {v1 v2 : Value} {outer : List Env} {Q : Value → Shared → Prop} (C : Cx (KK w) mg mb b) (hB : Bs b s.heap) (r : Room A 1) (K : Below A b outer s.heap)
    (h : ∀ h' tk x t vs, RaisedS b s.heap outer x (.type "TypeError") t vs [] h' → s.heap.UpToSlots h' → E (.ref x) { s with heap := h', toks := tk }) :
    wpAny (model PP w) A (call (.ref 91) [v1, v2]) Q E s := by
  refine wpAny_call ?_
  have hX := C.X.keeps hB.stays
  refine codeAny_call_def (binds := [("self", v1), ("other", v2)]) r.room (hX 91 _ rfl) rfl (C.nolimit.keeps hB.stays) (codeRec_of hX rfl) rfl (BindsTo.of_eq rfl) (by decide) (locs rfl) ?_
  intro h₁ hns hk₁
  have F : Fr s.heap s.heap.objs.size h₁ _ := ⟨hns, hk₁, Nat.le_refl _⟩
  have z : Z b s.heap.objs.size _ s.heap.get? h₁ := ⟨hns, hk₁, sz_none (Nat.le_refl _), hB.stays, hB.size⟩
  refine wpAny_execs_cons (Raise_madeB PySem.F.excCall_TypeError PySem.F.excRaise_TypeError r.handled (ev_bi (sc := fnScope (KK w) 91) ⟨rfl, rfl, rfl, rfl, rfl⟩ C z rfl PyProof.Rows.Boot.«TypeError» ⟨rfl, args_cons (wpAny_Constant_str (args_nil ⟨by show 1 ≤ sizeLine; decide, ?_⟩))⟩))
  intro h₂ x hx
  exact leave_raiseS K hx.of F News.nil fun h' t R _ hsm => h h' _ x t _ R hsm

set_option maxHeartbeats 2000000 in
/-- _law_ordered(row) is False; the frame that called it keeps its names -/
theorem ordered_spec {p : Program} {loose : List Str} {mean : ExcName → Option Value} {c d : Addr} {es : List DictEntry} {n : Nat} {Q : Value → Shared → Prop} (C : Cx (KK w) mg mb b) (T : Top p loose mean mg mb b) (r : Room A 2) (e : EnvIs env sc L) (hef : env.frame = some L) (hfr : A.frames = some [env])
    (z : Z b L m ld s.heap) (hc : ld c = some (instObj 94 d)) (hd : ld d = some (dictOf es n))
    (h : ∀ h' tk, Z b L m ld h' → Q (.bool false) { s with heap := h', toks := tk }) :
    wpAny (model PP w) A (call (.ref 272) [.ref c]) Q (fun _ _ => False) s := by
  have hB := z.bs
  have hX := C.X.keeps hB.stays
  obtain ⟨oL, hoL, es', ep', hdL, _⟩ := LCg.ns_obj z.ns
  have hfm : [env].filterMap (·.frame) = [L] := by simp [hef]
  have K : Below A b [env] s.heap := ⟨hfr, z.stays, ⟨by rw [e.fn]; decide, ⟨L, oL, hef, New.none z.above, hoL, fun vs q => by rw [hdL] at q; cases q⟩, trivial⟩⟩
  have D : KtsDicts ([env].filterMap (·.frame)) s.heap := by
    rw [hfm]; intro a ha; rw [List.mem_singleton.mp ha]; exact ⟨oL, es', ep', hoL, hdL⟩
  refine wpAny_call ?_
  refine codeAny_call_def (binds := [("row", .ref c)]) r.room (hX 272 _ rfl) rfl (C.nolimit.keeps hB.stays) (codeRec_of hX rfl) rfl (BindsTo.of_eq rfl) (by decide) (locs rfl) ?_
  intro h₁ hns hk₁
  have F : Fr s.heap s.heap.objs.size h₁ _ := ⟨hns, hk₁, Nat.le_refl _⟩
  have z₁ : Z b s.heap.objs.size _ s.heap.get? h₁ := ⟨hns, hk₁, sz_none (Nat.le_refl _), hB.stays, hB.size⟩
  refine wpAny_mono (E := fun _ _ => False) ?_ (fun _ _ q => q) fun _ _ x => x.elim
  refine wpAny_execs_cons (wpAny_Try_except (wpAny_execs_cons (wpAny_Return_some (wpAny_Compare1 (wpAny_Compare1 (ev_loc (sc := fnScope (KK w) 272) ⟨rfl, rfl, rfl, rfl, rfl⟩ z₁ rfl (ev_loc (sc := fnScope (KK w) 272) ⟨rfl, rfl, rfl, rfl, rfl⟩ z₁ rfl ?_)))))))
  show wpAny _ _ (richCompare .Lt (.ref c) (.ref c)) _ _ _
  refine cmp_K (r.deeper _).unit z₁.F C.X (inst_at z₁ (z.led _ _ hc) (z.led _ _ hd)) (tb := .ref 94) ?_ rfl rfl rfl ?_
  · exact (inst_at z₁ (z.led _ _ hc) (z.led _ _ hd)).type
  · refine lt_raises C z₁.bs (r.deeper _) (K.push F) fun h' tk x t vs R hsm => ?_
    refine caught_S0 R F K hsm C.X T D .refl rfl PyProof.Rows.Boot.«TypeError» (by decide) PySem.F.isExc_TypeError PySem.F.notTuple_TypeError (by rw [isSubtype_type]; kernel_rfl) ?_
    intro h₃ g' news₂ KT F₃ _ _ _ _ _ _ _
    refine wpAny_execs_cons (wpAny_Return_some (wpAny_Constant_bool ?_))
    rw [hfm] at KT
    refine h _ _ ⟨?_, ?_, z.fr, z.base, z.above⟩
    · exact Heap.UpToSlots.ns (fun a o q _ => by obtain ⟨sl, q'⟩ := KT.up q; exact ⟨sl, F₃.keep _ _ q'⟩) z.ns
    · intro a o q
      exact F₃.keep _ _ (KT.other _ _ (z.led _ _ q) fun ha => z.neL q (List.mem_singleton.mp ha))
end
end Mine

namespace Mine
noncomputable abbrev crB (w : World) : List Stmt := fnBody (KK w) 277
noncomputable abbrev crS (w : World) : Scope := fnScope (KK w) 277
noncomputable abbrev whB (w : World) : List Stmt := match (crB w).getD 2 (.Pass default) with | .While _ b _ _ => b | _ => []
noncomputable abbrev newB (w : World) : List Stmt := match (whB w).getD 3 (.Pass default) with | .If _ b _ _ => b | _ => []
noncomputable abbrev rowB (w : World) : List Stmt := match (newB w).getD 3 (.Pass default) with | .For _ _ b _ _ => b | _ => []
noncomputable abbrev touchB (w : World) : List Stmt := match (rowB w).getD 0 (.Pass default) with | .If _ b _ _ => b | _ => []
/-- locals as m but for the names xs -/
def Lo (xs : List Str) (m m' : Loc) : Prop := ∀ x : Str, x ∉ xs → m' x = m x
section
variable {w : World} {A : Around} {E : Value → Shared → Prop} {s : Shared} {mg mb : Str → Option Value} {b : Heap} {L : Addr} {m : Loc} {ld : Ld} {env : Env} {sc : Scope}
/-- a temporary is forgotten -/
theorem Z.drop {h h' : Heap} {m' : Loc} {D : Addr} {o : Obj} (z₀ : Z b L m' ld h') (z : Z b L m (upd ld D o) h) (hD : ld D = none) : Z b L m ld h :=
  z.mono (fun _ _ q => upd_old hD q) z₀.base
theorem ev_neg {x : Str} {px pos : Pos} {k : Int} {t : Tok} {Q : Value → Shared → Prop} (e : EnvIs env sc L) (z : Z b L m ld s.heap) (hx : m x = some (.int k t)) (h : ∀ u tk, Q (.int (-k) u) { s with toks := tk })
    (hl : sc.names.lookup x = some .local := by rfl) (hd : (x == ("__debug__" : Str)) = false := by decide) : wpAny (model PP w) A (eval (.UnaryOp .USub (.Name x px) pos) env) Q E s :=
  wpAny_UnaryOp (ev_loc e z hx (neg_int (h _ _)) hl hd)

/-- what is told fits what is loose -/
def Right3 (u : Option Int) (lo now pls : List Int) (one : Int) : Prop :=
  (lo = [] ∧ ∃ k, u = some k ∧ k ∈ pls ∧ k ≠ -one) ∨ (∃ k, lo = [k] ∧ k ∉ now ∧ u = some k) ∨ (∃ k r, lo = k :: r ∧ (r = [] → k ∈ now) ∧ u = none)

set_option maxHeartbeats 1000000 in
theorem right_walk {u : Option Int} {uv : Value} {lo now pls : List Int} {one : Int} {t : Tok} {lD pD nw nc : Addr} {lvs pvs nvs : List Value} {ln pn nn mm : Nat} {Q : Flow → Shared → Prop}
    (C : Cx (KK w) mg mb b) (r : Room A mm) (e : EnvIs env (crS w) L) (hce : env.cells = [(("now" : Str), nc)]) (z : Z b L m ld s.heap) (hu : m "unit" = some uv) (huv : isOr uv u)
    (hlo : m "loose" = some (.ref lD)) (hlD : ld lD = some (listOf lvs.toArray ln)) (hli : IntsAre lvs lo) (hll : lo.length ≤ 100) (hpl : m "plain" = some (.ref pD)) (hpD : ld pD = some (listOf pvs.toArray pn)) (hpi : IntsAre pvs pls) (hone : m "one" = some (.int one t))
    (hnc : CellIs ld nc (some (.ref nw))) (hnw : ld nw = some (listOf nvs.toArray nn)) (hni : IntsAre nvs now) (hT : Right3 u lo now pls one)
    (h : ∀ h' tk, Z b L (fun y => if y = "right" then some (.bool true) else m y) ld h' → Q .next { s with heap := h', toks := tk }) :
    wpAny (model PP w) A (exec ((touchB w).getD 2 (.Pass default)) env) Q (fun _ _ => False) s := by
  show wpAny _ _ (exec (.If (.Compare _ _ _ _) [.Assign [.Name "right" _] (.BoolOp .And [_, _] _) _] [.If (.BoolOp .And [_, _] _) [.Assign [.Name "right" _] _ _] [.Assign [.Name "right" _] _ _] _] _) env) _ _ _
  have hsz : lvs.toArray.size = lo.length := by rw [List.size_toArray, hli.length]
  refine wpAny_If (wpAny_isTrue_Compare1 (ev_loc e z hlo (ev_nil z fun D h₁ hD hDn z₁ => ?_)))
  refine eq_intsK (z₁.isList (upd_old hD hlD)) hli (z₁.isList upd_self) .nil r.unit64 (wpAny_truthy_bool ?_)
  have z := z.drop z₁ hD
  rcases hT with ⟨rfl, k, rfl, hk1, hk2⟩ | ⟨k, rfl, hk, rfl⟩ | ⟨k, rest, rfl, hk, rfl⟩
  · obtain ⟨t', rfl⟩ := huv
    rw [if_pos (decide_eq_true (rfl : ([] : List Int) = []))]
    refine wpAny_execs_cons (wpAny_Assign_Name (ev_and (wpAny_Compare1 (ev_loc e z hu (ev_loc e z hpl (in_ints z hpD hpi (wpAny_truthy_bool ?_)))))))
    rw [decide_eq_true hk1, if_pos rfl]
    refine ev_and1 (wpAny_Compare1 (ev_loc e z hu (ev_neg e z hone fun u2 tk2 => ne_int ?_)))
    rw [bne_iff_ne.mpr hk2]
    exact st_loc e z fun h₂ z => wpAny_execs_nil (h _ _ z)
  · obtain ⟨t', rfl⟩ := huv
    rw [if_neg (by simp)]
    refine wpAny_execs_cons (wpAny_If (isTrue_and (wpAny_isTrue_Compare1 (Call_ (ev_bi e C z rfl boot_len (PyProof.Rows.callWith_builtin1 (args_cons (ev_loc e z hlo (args_nil ?_)))))))))
    refine call_len_list (z.isList hlD) (by rw [hsz]; omega) ?_
    rw [hsz]
    refine wpAny_Constant_int (eq_int (wpAny_truthy_bool ?_))
    rw [if_pos (show (([k].length : Int) == 1) = true from rfl)]
    refine isTrue_and (wpAny_isTrue_Compare1 (Subscript_ (ev_loc e z hlo (wpAny_Constant_int (it_int z hlD hli (v := k) rfl (by decide) (by decide) fun t2 => ?_)))))
    refine ev_cell e (by rw [hce]; rfl) z hnc (notin_ints z hnw hni (wpAny_truthy_bool ?_))
    rw [if_pos (decide_eq_true hk)]
    refine isTrue_and_nil ?_
    rw [if_pos rfl]
    refine wpAny_execs_cons (wpAny_Assign_Name (wpAny_Compare1 (ev_loc e z hu (Subscript_ (ev_loc e z hlo (wpAny_Constant_int (it_int z hlD hli (v := k) rfl (by decide) (by decide) fun t3 => eq_int ?_)))))))
    rw [beq_self_eq_true]
    exact st_loc e z fun h₂ z => wpAny_execs_nil (wpAny_execs_nil (h _ _ z))
  · obtain rfl : uv = .none := huv
    rw [if_neg (by simp)]
    have go : ∀ (Q' : Flow → Shared → Prop) tk, (∀ h' tk', Z b L (fun y => if y = "right" then some (.bool true) else m y) ld h' → Q' .next { s with heap := h', toks := tk' }) →
        wpAny (model PP w) A (execs (match (touchB w).getD 2 (.Pass default) with | .If _ _ [.If _ _ e _] _ => e | _ => []) env) Q' (fun _ _ => False) { s with heap := h₁, toks := tk } := fun Q' tk hQ => by
      refine wpAny_execs_cons (wpAny_Assign_Name (wpAny_Compare1 (ev_loc (s := { s with heap := h₁, toks := tk }) e z hu (wpAny_Constant_none ?_))))
      exact wpAny_is_plain rfl (st_loc (s := { s with heap := h₁, toks := tk }) e z fun h₂ z => wpAny_execs_nil (hQ _ _ z))
    refine wpAny_execs_cons (wpAny_If (isTrue_and (wpAny_isTrue_Compare1 (Call_ (ev_bi e C z rfl boot_len (PyProof.Rows.callWith_builtin1 (args_cons (ev_loc e z hlo (args_nil ?_)))))))))
    refine call_len_list (z.isList hlD) (by rw [hsz]; omega) ?_
    rw [hsz]
    refine wpAny_Constant_int (eq_int (wpAny_truthy_bool ?_))
    cases rest with
    | nil =>
      rw [if_pos (show (([k].length : Int) == 1) = true from rfl)]
      refine isTrue_and (wpAny_isTrue_Compare1 (Subscript_ (ev_loc e z hlo (wpAny_Constant_int (it_int z hlD hli (v := k) rfl (by decide) (by decide) fun t2 => ?_)))))
      refine ev_cell e (by rw [hce]; rfl) z hnc (notin_ints z hnw hni (wpAny_truthy_bool ?_))
      rw [if_neg (by simp [hk rfl]), if_neg (by simp)]
      exact go _ _ fun h' tk' z => wpAny_execs_nil (h _ _ z)
    | cons k2 r2 =>
      have hne : (((k :: k2 :: r2).length : Int) == 1) = false := beq_eq_false_iff_ne.mpr (by simp only [List.length_cons]; omega)
      rw [hne, if_neg (by simp), if_neg (by simp)]
      exact go _ _ fun h' tk' z => wpAny_execs_nil (h _ _ z)
end
end Mine

namespace Mine
theorem Cl.mono {ld ld' : Ld} {c d l : Addr} {v1 v2 : Value} {lits : List Int} (x : Cl ld c d l v1 v2 lits) (h : ∀ a o, ld a = some o → ld' a = some o) : Cl ld' c d l v1 v2 lits where
  inst := h _ _ x.inst
  dict := let ⟨h1, h2, h3, t1, t2, t3, n, q⟩ := x.dict; ⟨h1, h2, h3, t1, t2, t3, n, h _ _ q⟩
  list := let ⟨vs, n, q, r⟩ := x.list; ⟨vs, n, h _ _ q, r⟩
section
variable {w : World} {A : Around} {E : Value → Shared → Prop} {s : Shared} {mg mb : Str → Option Value} {b : Heap} {L : Addr} {m : Loc} {ld : Ld} {env : Env} {sc : Scope}

/-- row[..]: the call of __getitem__ -/
theorem row_sub {value slice : Expr} {c d l : Addr} {v1 v2 i : Value} {lits : List Int} {Q : Value → Shared → Prop} (C : Cx (KK w) mg mb b) (z : Z b L m ld s.heap) (hc : Cl ld c d l v1 v2 lits)
    (h : wpAny (model PP w) A.in1 (call (.ref 77) [.ref c, i]) Q E s) (hsl : subscripted slice true (.ref c) i = runValue (.builtin "lifetime.subscript" ⟨[.ref c, i], []⟩) := by with_unfolding_all rfl) :
    wpAny (model PP w) A (subscriptTail value slice (.ref c) i) Q E s := by
  obtain ⟨h1, h2, h3, t1, t2, t3, n, hd⟩ := hc.dict
  exact PySem.W.sub_K z.F C.X (inst_at z hc.inst hd) rfl rfl rfl h hsl

/-- row[a:b]: the call of __getitem__ -/
theorem row_cut {value slice : Expr} {c d l : Addr} {v1 v2 i : Value} {lits : List Int} {Q : Value → Shared → Prop} (C : Cx (KK w) mg mb b) (z : Z b L m ld s.heap) (hc : Cl ld c d l v1 v2 lits)
    (h : wpAny (model PP w) A (call (.ref 77) [.ref c, i]) Q E s) (hsl : subscripted slice true (.ref c) i = operate [i, .ref c] (getItem (.ref c) i) := by with_unfolding_all rfl) :
    wpAny (model PP w) A (subscriptTail value slice (.ref c) i) Q E s := by
  obtain ⟨h1, h2, h3, t1, t2, t3, n, hd⟩ := hc.dict
  have X := C.X.keeps z.stays
  have I := inst_at z hc.inst hd
  have hs : findIn (KK w) (.ref 94) "__getitem__" = some (some (.ref 77)) := rfl
  have hq : noSeq (KK w) 94 = true := rfl
  unfold subscriptTail getitemInPython
  refine wpAny_bind (wpAny_bind (wpAny_bind (I.type.here ((looks_findIn X hs).here ?_))))
  dsimp only
  refine wpAny_bind (wpAny_load (X 77 _ rfl) (wpAny_pure ?_))
  dsimp only
  rw [hsl]
  refine wpAny_bind (wpAny_operating ?_)
  unfold getItem sequenceKey
  refine wpAny_holding (wpAny_bind (wpAny_bind (I.type.here ?_)))
  refine wpAny_bind ((anyM_none X hq).here ?_)
  rw [if_pos (show (!false) = true from rfl)]
  exact wpAny_pure (wpAny_bind (special_fn X I hs (beq_iff_eq.mp (show isFn (KK w) (.ref 77) = true from rfl)) (wpAny_mono h (fun _ _ z => wpAny_pure (wpAny_bind (wpAny_letTemporaryGo (wpAny_pure z)))) fun _ _ z => z)))

/-- row[:k], row[:], the slice at hand -/
theorem ev_cut {x : Str} {lo : Option Expr} {px p2 p3 : Pos} {c d l : Addr} {v1 v2 : Value} {lits : List Int} {k : Option Nat} {Q : Value → Shared → Prop} (e : EnvIs env sc L) (C : Cx (KK w) mg mb b) (r : Room A 2) (z : Z b L m ld s.heap) (hx : m x = some (.ref c)) (hc : Cl ld c d l v1 v2 lits) (hlen : lits.length ≤ 1000)
    (hk : ∀ Q' : Value → Shared → Prop, (∀ v tk, IsPart v (k.map fun k : Nat => (k : Int)) → Q' v { s with toks := tk }) → wpAny (model PP w) A (evalPart lo env) Q' E s)
    (h : ∀ D h' tk vs, ld D = none → Z b L m (upd ld D (listOf vs.toArray 0)) h' → IntsAre vs (cutBy k lits) → Q (.ref D) { s with heap := h', toks := tk })
    (hn : sc.names.lookup x = some .local := by rfl) (hd : (x == ("__debug__" : Str)) = false := by decide)
    (hsl : ∀ i, subscripted (.Slice none lo none p2) true (.ref c) (.ref i) = operate [.ref i, .ref c] (getItem (.ref c) (.ref i)) := by intro _; with_unfolding_all rfl) :
    wpAny (model PP w) A (eval (.Subscript (.Name x px) (.Slice none lo none p2) p3) env) Q E s := by
  refine Subscript_ (ev_loc e z hx ?_ hn hd)
  refine wpAny_Slice (evalPart_none_step (hk _ fun v tk hv => evalPart_none_step ?_))
  have z₁ := z.push { cls := .type "slice", data := .fields #[.none, v, .none] }
  have hs : (s.heap.push { cls := .type "slice", data := .fields #[.none, v, .none] }).get? s.heap.objs.size = some { cls := .type "slice", data := .fields #[.none, v, .none] } := Heap.get?_push_size _ rfl
  generalize s.heap.push { cls := .type "slice", data := .fields #[.none, v, .none] } = H at z₁ hs ⊢
  have z := z.drop z₁ z.size_none
  refine row_cut (s := { s with heap := H, toks := tk }) C z hc ?_ (hsl _)
  refine clcut_spec C z.bs (r.le (by omega)) (hc.mono fun _ _ q => z.led _ _ q) hlen ⟨_, hs, rfl, rfl⟩ hv fun D h' tk' vs hD hDn led hi => ?_
  have hDl : ld D = none := by
    cases q : ld D with
    | none => rfl
    | some o => rw [z.led _ _ q] at hD; cases hD
  exact h D h' tk' vs hDl (z.pushed hD hDn (fun a o q => led _ _ (upd_old hD q)) (led _ _ upd_self)) hi

set_option maxHeartbeats 1000000 in
/-- if not right or sorted(row[:]) != sorted(plain) -/
theorem check_walk {c d l pD : Addr} {v1 v2 : Value} {lits pls : List Int} {pvs : List Value} {pn : Nat} {Q : Flow → Shared → Prop}
    (C : Cx (KK w) mg mb b) (r : Room A 2) (e : EnvIs env (crS w) L) (z : Z b L m ld s.heap) (hr : m "right" = some (.bool true)) (hrow : m "row" = some (.ref c)) (hc : Cl ld c d l v1 v2 lits) (hpl : m "plain" = some (.ref pD)) (hpD : ld pD = some (listOf pvs.toArray pn)) (hpi : IntsAre pvs pls)
    (hp : lits.Perm pls) (hl : pls.length ≤ 60) (h : ∀ h' tk, Z b L m ld h' → Q .next { s with heap := h', toks := tk }) :
    wpAny (model PP w) A (exec ((touchB w).getD 3 (.Pass default)) env) Q (fun _ _ => False) s := by
  show wpAny _ _ (exec (.If (.BoolOp .Or [.UnaryOp .Not (.Name "right" _) _, .Compare (.Call _ [.Subscript (.Name "row" _) (.Slice none none none _) _] [] _) [.NotEq] [.Call _ [.Name "plain" _] [] _] _] _) _ [] _) env) _ _ _
  have hll := hp.length_eq
  have hpl' := hpi.length
  refine wpAny_If (isTrue_or (isTrue_not (isTrue_plain (ev_loc e z hr (wpAny_truthy_bool ?_)))))
  rw [if_neg (by simp)]
  refine isTrue_or (wpAny_isTrue_Compare1 (Call_ (ev_bi e C z rfl boot_sorted (PyProof.Rows.callWith_builtin1 (args_cons ?_)))))
  refine ev_cut (k := none) e C r z hrow hc (by omega) (fun Q' hQ => evalPart_none_step (hQ _ _ .none)) fun D h₁ tk₁ vs hD z₁ hi => args_nil ?_
  have hi : IntsAre vs lits := hi
  refine call_sorted z₁ upd_self hi (by rw [hi.length]; omega) fun S1 h₂ us1 ns1 e1 hS1 _ z₂ i1 p1 q1 => ?_
  have zz := z.drop (z₁.drop z₂ hS1) hD
  have g1 := z₂.isL upd_self
  refine Call_ (ev_bi e C zz rfl boot_sorted (PyProof.Rows.callWith_builtin1 (args_cons (ev_loc e zz hpl (args_nil ?_)))))
  refine call_sorted z₂ (upd_old hS1 (upd_old hD hpD)) hpi (by omega) fun S2 h₃ us2 ns2 e2 hS2 _ z₃ i2 p2 q2 => ?_
  refine ne_intsK (z₃.isList (upd_old hS2 upd_self)) i1 (z₃.isList upd_self) i2 r.unit64 (wpAny_truthy_bool ?_)
  rw [decide_eq_true (sorted_unique p1 p2 hp q1 q2), if_neg (by simp)]
  refine isTrue_or_nil ?_
  rw [if_neg (by simp)]
  exact wpAny_execs_nil (h _ _ (zz.drop (z₁.drop (z₂.drop z₃ hS2) hS1) hD))
end
end Mine

namespace Mine
theorem reason_perm {lits : List Int} {o : Int} (hn : lits.Nodup) (ho : o ∈ lits) : (reasonOf lits (some o) ++ [-o]).Perm (lits.map fun k => -k) := by
  have h1 : lits.filter (neU (some o)) = lits.erase o := (hn.erase_eq_filter o).symm
  have h2 : (lits.erase o ++ [o]).Perm lits := List.perm_append_comm.trans (List.perm_cons_erase ho).symm
  have := h2.map fun k => -k
  unfold reasonOf
  rw [h1]
  rwa [List.map_append] at this
/-- the contrary of a clause's wishes, sorted -/
def Contra (ns pls : List Int) : Prop := ns.Perm (pls.map fun k => -k) ∧ ns.Pairwise (· ≤ ·)
section
variable {w : World} {A : Around} {E : Value → Shared → Prop} {s : Shared} {mg mb : Str → Option Value} {b : Heap} {L : Addr} {m : Loc} {ld : Ld} {env : Env} {sc : Scope}

set_option maxHeartbeats 1000000 in
/-- if unit is not None: .. -/
theorem tell_walk {u : Option Int} {uv : Value} {c d l ct q : Addr} {v1 v2 : Value} {lits pls cns qs : List Int} {cvs qvs : List Value} {cn qn : Nat} {Q : Flow → Shared → Prop}
    (C : Cx (KK w) mg mb b) (r : Room A 2) (e : EnvIs env (crS w) L) (z : Z b L m ld s.heap) (hu : m "unit" = some uv) (huv : isOr uv u) (hrow : m "row" = some (.ref c)) (hc : Cl ld c d l v1 v2 lits) (hct : m "contrary" = some (.ref ct)) (hcD : ld ct = some (listOf cvs.toArray cn)) (hci : IntsAre cvs cns)
    (hp : lits.Perm pls) (hnd : pls.Nodup) (hl : pls.length ≤ 60) (hC : Contra cns pls) (hin : ∀ o, u = some o → o ∈ pls) (hq : m "queue" = some (.ref q)) (hqD : ld q = some (listOf qvs.toArray qn)) (hqn : New b q) (hqi : IntsAre qvs qs) (hql : qs.length ≤ 900)
    (h : ∀ h' tk ld' qvs' qn', Z b L m ld' h' → (∀ x o, x ≠ q → ld x = some o → ld' x = some o) → ld' q = some (listOf qvs'.toArray qn') → IntsAre qvs' (qs ++ u.toList) → Q .next { s with heap := h', toks := tk }) :
    wpAny (model PP w) A (exec ((touchB w).getD 4 (.Pass default)) env) Q (fun _ _ => False) s := by
  show wpAny _ _ (exec (.If (.Compare (.Name "unit" _) [.IsNot] [.Constant .none _ _] _) [.If (.Compare (.Call _ [.BinOp (.Call (.Attribute (.Name "row" _) "calculate_reason" _) [.Name "unit" _] [] _) .Add (.List [.UnaryOp .USub (.Name "unit" _) _] _) _] [] _) [.NotEq] [.Name "contrary" _] _) _ [] _, .Expr _ _] [] _) env) _ _ _
  refine wpAny_If (wpAny_isTrue_Compare1 (ev_loc e z hu (wpAny_Constant_none ?_)))
  cases u with
  | none =>
    obtain rfl : uv = .none := huv
    refine wpAny_isNot_plain rfl (wpAny_truthy_bool ?_)
    rw [if_neg (by decide)]
    refine wpAny_execs_nil (h _ _ _ _ _ z (fun _ _ _ q => q) hqD ?_)
    rw [Option.toList_none, List.append_nil]; exact hqi
  | some k =>
    obtain ⟨t, rfl⟩ := huv
    refine wpAny_isNot_plain rfl (wpAny_truthy_bool ?_)
    rw [if_pos (show (!(Value.int k t == Value.none)) = true from rfl)]
    obtain ⟨g1, g2, g3, t1, t2, t3, n, hd⟩ := hc.dict
    have hll := hp.length_eq
    refine wpAny_execs_cons (wpAny_If (wpAny_isTrue_Compare1 (Call_ (ev_bi e C z rfl boot_sorted (PyProof.Rows.callWith_builtin1 (args_cons (wpAny_BinOp (MethodCall_ (ev_loc e z hrow (gm_inst C z hc.inst hd rfl rfl rfl rfl ?_))))))))))
    refine cw_K C rfl (args_cons (ev_loc e z hu (args_nil ⟨z.stays, ?_⟩)))
    refine reason_spec (u := some k) C z.bs (r.le (by omega)) (hc.mono fun _ _ q => z.led _ _ q) (by omega) ⟨t, rfl⟩ (.inr rfl) fun h₁ tk₁ D ys ld' led hk hD0 hDn hD hys => ?_
    have z₁ : Z b L m (upd ld D (lstO ys)) h₁ := z.pushed hD0 hDn (fun a o q => led _ _ (hk _ _ q)) (led _ _ hD)
    have hDl : ld D = none := by
      cases q : ld D with
      | none => rfl
      | some o => rw [z.led _ _ q] at hD0; cases hD0
    have hyl : ys.length ≤ 60 := by
      rw [hys.length, reasonOf, List.length_map]
      exact Nat.le_trans (List.length_filter_le ..) (by omega)
    refine ev_list (b := b) (L := L) (args_cons (ev_neg e z₁ hu fun u2 tk2 => args_nil ⟨_, _, z₁, Nat.le_add_left 1 9999, fun D2 h₂ hD2 hD2n z₂ => ?_⟩))
    refine l_add z₂ (upd_old hD2 upd_self) upd_self (by omega) (Nat.le_add_left 1 999) fun D3 h₃ hD3 hD3n z₃ => args_nil ?_
    refine call_sorted z₃ upd_self (hys.append (.cons _ _ .nil)) (by rw [List.length_append]; show ys.length + 1 < 64; omega) fun S1 h₄ us1 ns1 e1 hS1 hS1n z₄ i1 p1 q1 => ?_
    have zz := z.drop (z₁.drop (z₂.drop (z₃.drop z₄ hS1) hD3) hD2) hDl
    refine ev_loc e zz hct ?_
    refine ne_intsK (z₄.isList upd_self) i1 (zz.isList hcD) hci r.unit64 (wpAny_truthy_bool ?_)
    have hpr : (reasonOf lits (some k) ++ [-k]).Perm cns := (reason_perm (hp.nodup_iff.mpr hnd) (hp.mem_iff.mpr (hin k rfl))).trans ((hp.map _).trans hC.1.symm)
    rw [decide_eq_true (sorted_unique p1 (.refl cns) hpr q1 hC.2), if_neg (by simp)]
    refine wpAny_execs_nil ?_
    refine wpAny_execs_cons (ex_flat e (MethodCall_ (ev_loc e zz hq (lm_append zz hqD (callWith_method1 (args_cons (ev_loc e zz hu (args_nil ?_))))))))
    refine l_append zz hqD hqn (by rw [hqi.length]; omega) fun h₅ z₅ => ⟨fun _ q => (nomatch q), wpAny_execs_nil ?_⟩
    exact h _ _ _ _ _ z₅ (fun x o q1 q2 => (upd_ne q1).trans q2) upd_self (hqi.append (.cons _ _ .nil))
end
end Mine

namespace Mine
/-- addresses of an entry of rows -/
structure EA where
  e : Addr
  c : Addr
  d : Addr
  l : Addr
  pl : Addr
  ct : Addr
  gv : Addr
  ws : Addr
/-- an int list lies there -/
def IntsAt (ld : Ld) (l : Addr) (ns : List Int) : Prop := ∃ vs n, ld l = some (listOf vs.toArray n) ∧ IntsAre vs ns
/-- an entry, less its clause's list -/
structure Ent0 (F : Ld) (a : EA) (pls : List Int) : Prop where
  ent : F a.e = some (listOf [Value.ref a.c, .ref a.pl, .ref a.ct, .ref a.gv, .ref a.ws].toArray 0)
  inst : F a.c = some (instObj 94 a.d)
  dict : ∃ h1 h2 h3 t1 t2 t3 v1 v2 n, F a.d = some (dictOf (clEs h1 h2 h3 t1 t2 t3 v1 v2 a.l) n)
  plain : IntsAt F a.pl pls
  con : ∃ ns, IntsAt F a.ct ns ∧ Contra ns pls
  same : ∃ ks, IntsAt F a.gv ks ∧ IntsAt F a.ws ks ∧ ks.length ≤ 60
  nd : pls.Nodup
  len : pls.length ≤ 60
/-- what never turns of an entry; its clause's list lies outside F -/
structure Ent (b : Heap) (F : Ld) (a : EA) (pls : List Int) : Prop extends Ent0 F a pls where
  two : 2 ≤ pls.length
  fl : F a.l = none
  nl : New b a.l
def Sub (F ld : Ld) : Prop := ∀ x o, F x = some o → ld x = some o
theorem IntsAt.sub {F ld : Ld} {l : Addr} {ns : List Int} (h : IntsAt F l ns) (k : Sub F ld) : IntsAt ld l ns := let ⟨vs, n, a, r⟩ := h; ⟨vs, n, k _ _ a, r⟩
theorem IntsAt.eq {F ld : Ld} {l : Addr} {ns : List Int} (h : IntsAt F l ns) (k : ld l = F l) : IntsAt ld l ns := let ⟨vs, n, a, r⟩ := h; ⟨vs, n, k.trans a, r⟩
theorem CellIs.sub {F ld : Ld} {c : Addr} {v : Option Value} (h : CellIs F c v) (k : Sub F ld) : CellIs ld c v := let ⟨o, a, r⟩ := h; ⟨o, k _ _ a, r⟩
theorem AS.sub {prog : Program} {w : World} {F ld : Ld} {p : AsAddr} {f : Int → Option Bool} {seen asg : List Int} (S : AS prog w F p f seen asg) (k : Sub F ld) : AS prog w ld p f seen asg :=
  S.congr ((k _ _ S.inst).trans S.inst.symm) fun c hc => by obtain ⟨o, q⟩ := S.some hc; exact (k _ _ q).trans q.symm
section
variable {w : World} {A : Around} {E : Value → Shared → Prop} {s : Shared} {mg mb : Str → Option Value} {b : Heap} {L : Addr} {m : Loc} {ld : Ld} {env : Env} {sc : Scope}

set_option maxHeartbeats 2000000 in
/-- unit = row.rewatch(held, one) -/
theorem unit_walk {F : Ld} {a : EA} {pls lits : List Int} {one : Int} {t : Tok} {p : AsAddr} {f : Int → Option Bool} {seen asg : List Int} {Q : Flow → Shared → Prop}
    (C : Cx (KK w) mg mb b) (r : Room A 3) (e : EnvIs env (crS w) L) (z : Z b L m ld s.heap) (hF : Sub F ld) (hE : Ent b F a pls) (hl : IntsAt ld a.l lits) (hperm : lits.Perm pls) (hin : -one ∈ lits.take 2)
    (hp : p.Ok b) (S : AS PP w F p f seen asg) (hrow : m "row" = some (.ref a.c)) (hheld : m "held" = some (.ref p.a)) (hone : m "one" = some (.int one t))
    (h : ∀ h' tk ld' uv, Z b L (fun y => if y = "unit" then some uv else m y) ld' h' → (∀ x o, x ≠ a.l → ld x = some o → ld' x = some o) → IntsAt ld' a.l (rwAfter f lits one) → isOr uv (rwTold f lits one) → Q .next { s with heap := h', toks := tk }) :
    wpAny (model PP w) A (exec ((touchB w).getD 0 (.Pass default)) env) Q (fun _ _ => False) s := by
  show wpAny _ _ (exec (.Assign [.Name "unit" _] (.Call (.Attribute (.Name "row" _) "rewatch" _) [.Name "held" _, .Name "one" _] [] _) _) env) _ _ _
  obtain ⟨h1, h2, h3, t1, t2, t3, v1, v2, n, hd⟩ := hE.dict
  obtain ⟨lvs, ln, hlD, hli⟩ := hl
  obtain ⟨g1, g2, g3, g4, g5, g6, u1, u2, u3, u4, u5, u6, nn, hdict⟩ := S.dict
  obtain ⟨o1, kvs1, hx1, hk1, hf1, hl1⟩ := S.data
  have k := fun x o (q : F x = some o) => z.led _ _ (hF x o q)
  have hll := hperm.length_eq
  have h60 := hE.len
  have h2' := hE.two
  refine wpAny_Assign_Name (MethodCall_ (ev_loc e z hrow (gm_inst C z (hF _ _ hE.inst) (hF _ _ hd) rfl rfl rfl rfl ?_)))
  refine cw_K C rfl (args_cons (ev_loc e z hheld (args_cons (ev_loc e z hone (args_nil ⟨z.stays, ?_⟩)))))
  refine rewatch_spec C z.bs (r.le (by omega)) (k _ _ hE.inst) (k _ _ hd) ⟨rfl, rfl⟩ (z.led _ _ hlD) hE.nl hli (by omega) (by omega) hin (k _ _ S.inst) (k _ _ hdict) ⟨rfl, rfl⟩ (k _ _ hx1) hp.n1 hk1 hf1 fun h₁ tk₁ vs' v led hi' hv => ?_
  have z₁ := z.call hlD hE.nl.none led
  refine st_loc e z₁ fun h₂ z₂ => h _ _ _ v z₂ (fun x o q1 q2 => (upd_ne q1).trans q2) ⟨vs', ln, upd_self, hi'⟩ ?_
  revert hv
  cases rwTold f lits one <;> exact id
end
end Mine

namespace Mine
section
variable {w : World} {A : Around} {E : Value → Shared → Prop} {s : Shared} {mg mb : Str → Option Value} {b : Heap} {L : Addr} {m : Loc} {ld : Ld} {env : Env} {sc : Scope}

theorem list_le {ns : List Int} {p : Int → Bool} : (ns.filter p).length ≤ ns.length := List.length_filter_le ..
set_option maxHeartbeats 2000000 in
/-- a row whose watched wish was refused -/
theorem touch_walk {F : Ld} {a : EA} {pls now lits qs : List Int} {one : Int} {t : Tok} {q nw nc : Addr} {p : AsAddr} {f : Int → Option Bool} {seen asg : List Int} {Q : Flow → Shared → Prop}
    (C : Cx (KK w) mg mb b) (r : Room A 3) (e : EnvIs env (crS w) L) (hce : env.cells = [(("now" : Str), nc)]) (z : Z b L m ld s.heap) (hF : Sub F ld) (hE : Ent b F a pls) (hl : IntsAt ld a.l lits) (hperm : lits.Perm pls) (hin : -one ∈ lits.take 2)
    (hq : m "queue" = some (.ref q)) (hqD : IntsAt ld q qs) (hqn : New b q) (hql : qs.length ≤ 900) (hqa : q ≠ a.l) (hnc : CellIs F nc (some (.ref nw))) (hnw : IntsAt F nw now)
    (hp : p.Ok b) (S : AS PP w F p f seen asg) (hrow : m "row" = some (.ref a.c)) (hpl : m "plain" = some (.ref a.pl)) (hct : m "contrary" = some (.ref a.ct)) (hheld : m "held" = some (.ref p.a)) (hone : m "one" = some (.int one t))
    (hT : Right3 (rwTold f lits one) (pls.filter fun k => decide (-k ∉ now)) now pls one) (hT2 : ∀ o, rwTold f lits one = some o → o ∈ pls) (hperm' : (rwAfter f lits one).Perm pls)
    (h : ∀ h' tk m' ld', Z b L m' ld' h' → Lo ["unit", "loose", "right"] m m' → (∀ x o, x ≠ a.l → x ≠ q → ld x = some o → ld' x = some o) → IntsAt ld' a.l (rwAfter f lits one) → IntsAt ld' q (qs ++ (rwTold f lits one).toList) → Q .next { s with heap := h', toks := tk }) :
    wpAny (model PP w) A (execs (touchB w) env) Q (fun _ _ => False) s := by
  show wpAny _ _ (execs ((touchB w).getD 0 (.Pass default) :: .Assign [.Name "loose" _] (.ListComp (.Name "other" _) [⟨.Name "other" _, .Name "plain" _, [_], 0⟩] _ _) _ :: (touchB w).getD 2 (.Pass default) :: (touchB w).getD 3 (.Pass default) :: (touchB w).getD 4 (.Pass default) :: []) env) _ _ _
  refine wpAny_execs_cons (unit_walk C r e z hF hE hl hperm hin hp S hrow hheld hone fun h₁ tk₁ l1 uv z k1 hl1 huv => ?_)
  dsimp only
  have hF1 : Sub F l1 := fun x o q' => k1 x o (fun e' => by rw [e', hE.fl] at q'; cases q') (hF x o q')
  have hq1 : IntsAt l1 q qs := let ⟨vs, n, g, g'⟩ := hqD; ⟨vs, n, k1 _ _ hqa g, g'⟩
  clear hl hqD hF
  obtain ⟨pvs, pn, hpD, hpi⟩ := hE.plain
  have h60 := hE.len
  generalize hA : rwAfter f lits one = lits' at hl1 hperm' h
  generalize hB : rwTold f lits one = u at hT hT2 h huv
  refine wpAny_execs_cons (as_lc e hce rfl (ev_loc e z hpl ?_))
  refine lc_filter (fun k => decide (-k ∉ now)) r e z (hF1 _ _ hpD) hpi (by rw [hpi.length]; omega) ?_ ?_
  · intro C' k t' m₁ lq h₂ tk₂ hs _ eC z'
    obtain ⟨nvs, nn, hn1, hn2⟩ := hnw
    refine wpAny_isTrue_Compare1 (ev_neg eC z' rfl fun u2 tk2 => ev_cell eC rfl z' (hnc.sub fun x o q' => hs _ _ (hF1 _ _ q')) (notin_ints z' (hs _ _ (hF1 _ _ hn1)) hn2 (wpAny_truthy_bool ⟨rfl, _, _, rfl, z'⟩)))
  intro D C' ys lq mC h₂ tk₂ hD hDn hs hys hqD z hC' hLC hns
  refine post_use e z hC' hLC hns fun h₃ z => ?_
  dsimp only
  have hF2 : Sub F lq := fun x o q' => hs _ _ (hF1 x o q')
  obtain ⟨nvs, nn, hn1, hn2⟩ := hnw
  refine wpAny_execs_cons (right_walk C r e hce z rfl huv rfl hqD hys (Nat.le_trans list_le (by omega)) hpl (hF2 _ _ hpD) hpi hone (hnc.sub hF2) (hF2 _ _ hn1) hn2 hT fun h₄ tk₄ z => ?_)
  dsimp only
  obtain ⟨h1, h2, h3, t1, t2, t3, v1, v2, n, hd⟩ := hE.dict
  obtain ⟨lvs, ln, hlD, hli⟩ := hl1
  have hcl : Cl lq a.c a.d a.l v1 v2 lits' := ⟨hF2 _ _ hE.inst, ⟨h1, h2, h3, t1, t2, t3, n, hF2 _ _ hd⟩, ⟨lvs, ln, hs _ _ hlD, hli⟩⟩
  refine wpAny_execs_cons (check_walk C (r.le (by omega)) e z rfl hrow hcl hpl (hF2 _ _ hpD) hpi hperm' h60 fun h₅ tk₅ z => ?_)
  dsimp only
  obtain ⟨cns, ⟨cvs, cn, hcD, hci⟩, hC⟩ := hE.con
  obtain ⟨qvs, qn, hq2, hqi⟩ := hq1
  refine wpAny_execs_cons (tell_walk C (r.le (by omega)) e z rfl huv hrow hcl hct (hF2 _ _ hcD) hci hperm' hE.nd h60 hC hT2 hq (hs _ _ hq2) hqn hqi hql fun h₆ tk₆ l6 qvs' qn' z k6 hq6 hqi6 => ?_)
  dsimp only
  refine wpAny_execs_nil (h _ _ _ _ z (fun x hx => ?_) (fun x o q1 q2 q3 => k6 _ _ q2 (hs _ _ (k1 _ _ q1 q3))) ⟨lvs, ln, k6 _ _ (Ne.symm hqa) (hs _ _ hlD), hli⟩ ⟨_, _, hq6, hqi6⟩)
  simp only [List.mem_cons, List.not_mem_nil, or_false, not_or] at hx
  rw [if_neg hx.2.2, if_neg hx.2.1, if_neg hx.1]
end
end Mine

namespace Mine

/-- the table tells what is held -/
def HeldIs (f : Int → Option Bool) (hs : List Int) : Prop := ∀ k, (f k = some true ↔ k ∈ hs) ∧ (f k = some false ↔ -k ∈ hs)
/-- no wish and its contrary -/
def Clean (now : List Int) : Prop := ∀ k ∈ now, -k ∉ now

/-- x refused: y is granted, or waits and all of rest are refused -/
def Half (now q rest : List Int) (x y : Int) : Prop := -x ∈ now → y ∈ now ∨ (y ∈ q ∧ ∀ k ∈ rest, -k ∈ now)
def Star (now q : List Int) : List Int → Prop
  | x :: y :: rest => Half now q rest x y ∧ Half now q rest y x
  | _ => True
def Stab (p : List Int) : List Int → Prop
  | x :: y :: _ => (-x ∈ p → y ∈ p) ∧ (-y ∈ p → x ∈ p)
  | _ => True

theorem Star.end {now lits : List Int} (h : Star now [] lits) : Stab now lits := by
  match lits, h with
  | [], _ => trivial
  | [_], _ => trivial
  | x :: y :: rest, h => exact ⟨fun q => (h.1 q).resolve_right fun q => by simp at q, fun q => (h.2 q).resolve_right fun q => by simp at q⟩
theorem Stab.star {now q lits : List Int} (h : Stab now lits) : Star now q lits := by
  match lits, h with
  | [], _ => trivial
  | [_], _ => trivial
  | x :: y :: rest, h => exact ⟨fun q => .inl (h.1 q), fun q => .inl (h.2 q)⟩
theorem Star.more {now q q' lits : List Int} (h : Star now q lits) (hs : ∀ k ∈ q, k ∈ q') : Star now q' lits := by
  match lits, h with
  | [], _ => trivial
  | [_], _ => trivial
  | x :: y :: rest, h => exact ⟨fun g => (h.1 g).imp id fun g => ⟨hs _ g.1, g.2⟩, fun g => (h.2 g).imp id fun g => ⟨hs _ g.1, g.2⟩⟩
/-- a granted wish is popped -/
theorem Star.skip {now q lits : List Int} {one : Int} (h : Star now (one :: q) lits) (ho : one ∈ now) : Star now q lits := by
  have key : ∀ {rest : List Int} {x y : Int}, Half now (one :: q) rest x y → Half now q rest x y := fun {rest x y} h g => by
    rcases h g with g | ⟨g, g'⟩
    · exact .inl g
    · rcases List.mem_cons.mp g with rfl | g
      · exact .inl ho
      · exact .inr ⟨g, g'⟩
  match lits, h with
  | [], _ => trivial
  | [_], _ => trivial
  | x :: y :: rest, h => exact ⟨key h.1, key h.2⟩
theorem in_snoc {old : List Int} {one k : Int} : k ∈ old ++ [one] ↔ k ∈ old ∨ k = one := by rw [List.mem_append, List.mem_singleton]
/-- a row that is not touched -/
theorem Star.far {old q lits : List Int} {one : Int} (h : Star old (one :: q) lits) (hn : -one ∉ lits.take 2) : Star (old ++ [one]) q lits := by
  have key : ∀ {rest : List Int} {x y : Int}, -one ≠ x → Half old (one :: q) rest x y → Half (old ++ [one]) q rest x y := fun {rest x y} hx h g => by
    rcases in_snoc.mp g with g | g
    · rcases h g with g | ⟨g, g'⟩
      · exact .inl (in_snoc.mpr (.inl g))
      · rcases List.mem_cons.mp g with rfl | g
        · exact .inl (in_snoc.mpr (.inr rfl))
        · exact .inr ⟨g, fun k hk => in_snoc.mpr (.inl (g' k hk))⟩
    · exact absurd (by rw [← g, Int.neg_neg]) hx
  match lits, h, hn with
  | [], _, _ => trivial
  | [_], _, _ => trivial
  | x :: y :: rest, h, hn =>
    simp only [List.take_succ_cons, List.take_zero, List.mem_cons, List.not_mem_nil, or_false, not_or] at hn
    exact ⟨key hn.1 h.1, key hn.2 h.2⟩

theorem only_one {l : List Int} {o : Int} (hn : l.Nodup) (ho : o ∈ l) (h : ∀ k ∈ l, k = o) : l = [o] := by
  match l, hn, ho, h with
  | [a], _, _, h => rw [h a (.head _)]
  | a :: c :: r, hn, _, h =>
    have := h a (.head _)
    have h2 := h c (.tail _ (.head _))
    rw [List.nodup_cons] at hn
    exact absurd (show a ∈ c :: r by rw [this, h2]; exact List.mem_cons_self) hn.1

/-- the plain side of a touched row -/
theorem touch_plain {f : Int → Option Bool} {old q lits pls : List Int} {one : Int} (hS : Star old (one :: q) lits) (hp : lits.Perm pls) (hnd : pls.Nodup) (hin : -one ∈ lits.take 2) (h2 : 2 ≤ pls.length) (hf : HeldIs f (old ++ [one])) (hc : Clean (old ++ [one])) :
    Right3 (rwTold f lits one) (pls.filter fun k => decide (-k ∉ old ++ [one])) (old ++ [one]) pls one ∧ (∀ o, rwTold f lits one = some o → o ∈ pls) ∧ (rwAfter f lits one).Perm pls ∧
    (∀ qs, (∀ k ∈ q, k ∈ qs) → Star (old ++ [one]) (qs ++ (rwTold f lits one).toList) (rwAfter f lits one)) ∧ (∀ P : List Int, (∀ k ∈ P, k ∈ old) → Stab P lits → Stab P (rwAfter f lits one)) := by
  obtain ⟨x, y, rest, rfl⟩ : ∃ x y rest, lits = x :: y :: rest := by
    have := hp.length_eq
    match lits, this with
    | [], h => simp at h; omega
    | [_], h => simp at h; omega
    | x :: y :: rest, _ => exact ⟨x, y, rest, rfl⟩
  have hop := other_perm (rest := rest) hin
  have hnd' : (rwOther x y one :: -one :: rest).Nodup := (hop.trans hp).nodup_iff.mpr hnd
  have hmem : ∀ k, k ∈ pls ↔ k = rwOther x y one ∨ k = -one ∨ k ∈ rest := fun k => by rw [← (hop.trans hp).mem_iff]; simp
  have hone : one ∈ old ++ [one] := in_snoc.mpr (.inr rfl)
  have hno : -one ∉ old ++ [one] := hc one hone
  -- the pair, in the order (other, -one)
  have hS' : Half old (one :: q) rest (rwOther x y one) (-one) ∧ Half old (one :: q) rest (-one) (rwOther x y one) := by
    unfold rwOther
    simp only [List.take_succ_cons, List.take_zero, List.mem_cons, List.not_mem_nil, or_false] at hin
    split
    · rename_i g; rw [← g]; exact ⟨hS.2, hS.1⟩
    · rename_i g; rw [hin.resolve_left fun e => g e.symm]; exact hS
  have hT : ∀ P, Stab P (x :: y :: rest) → Stab P (rwOther x y one :: -one :: rest) := fun P g => by
    unfold rwOther
    simp only [List.take_succ_cons, List.take_zero, List.mem_cons, List.not_mem_nil, or_false] at hin
    split
    · rename_i g'; rw [← g']; exact ⟨g.2, g.1⟩
    · rename_i g'; rw [hin.resolve_left fun e => g' e.symm]; exact g
  have hshape := rwAfter_shape (f := f) hin
  generalize rwOther x y one = o at *
  have ho1 : o ≠ -one := fun e => by rw [List.nodup_cons] at hnd'; exact hnd'.1 (by rw [e]; exact .head _)
  have hor : o ∉ rest := fun e => by rw [List.nodup_cons] at hnd'; exact hnd'.1 (.tail _ e)
  -- o refused now: it was, and all of rest were
  have star : -o ∈ old ++ [one] → ∀ k ∈ rest, -k ∈ old := fun g => by
    rcases in_snoc.mp g with g | g
    · rcases hS'.1 g with g | ⟨_, g⟩
      · exact absurd (in_snoc.mpr (.inl g)) hno
      · exact g
    · exact absurd (by rw [← g, Int.neg_neg]) ho1
  have hlo : ∀ k, k ∈ (pls.filter fun k => decide (-k ∉ old ++ [one])) ↔ k ∈ pls ∧ -k ∉ old ++ [one] := fun k => by rw [List.mem_filter, decide_eq_true_eq]
  have hlnd := hnd.filter fun k => decide (-k ∉ old ++ [one])
  have hop' : o ∈ pls := (hmem o).mpr (.inl rfl)
  generalize (pls.filter fun k => decide (-k ∉ old ++ [one])) = lo at hlo hlnd ⊢
  have hPn : ∀ P : List Int, (∀ k ∈ P, k ∈ old) → ∀ k, -k ∉ old ++ [one] → -k ∉ P := fun P hP k g g' => g (in_snoc.mpr (.inl (hP _ g')))
  rcases hshape with ⟨g1, g2, g3⟩ | ⟨g1, n, c, g4, g5, g2, g3⟩ | ⟨g1, g4, g2, g3⟩
  · -- the other is granted
    have hon := (hf o).1.mp g1
    have hoc := hc o hon
    have hol := (hlo o).mpr ⟨hop', hoc⟩
    rw [g2, g3]
    refine ⟨.inr (.inr ?_), (fun _ h => nomatch h), hop.trans hp, fun qs _ => ⟨fun g => absurd g hoc, fun _ => .inl hon⟩, fun P _ g => hT P g⟩
    match lo, hol with
    | k :: r, hol =>
      refine ⟨k, r, rfl, ?_, rfl⟩
      rintro rfl
      rw [← List.mem_singleton.mp hol]; exact hon
  · -- a spare one
    have hcr : c ∈ rest := List.mem_of_getElem? g4
    have hcc : -c ∉ old ++ [one] := fun g => g5 ((hf c).2.mpr g)
    have hoc : -o ∉ old ++ [one] := fun g => hcc (in_snoc.mpr (.inl (star g c hcr)))
    have hol := (hlo o).mpr ⟨hop', hoc⟩
    have hcl := (hlo c).mpr ⟨(hmem c).mpr (.inr (.inr hcr)), hcc⟩
    have hpm := ((perm_set g4 (a := -one)).cons o).trans (hop.trans hp)
    rw [g2, g3]
    refine ⟨.inr (.inr ?_), (fun _ h => nomatch h), hpm, fun qs _ => ⟨fun g => absurd g hoc, fun g => absurd g hcc⟩, fun P hP _ => ⟨fun g => absurd g (hPn P hP o hoc), fun g => absurd g (hPn P hP c hcc)⟩⟩
    match lo, hol, hcl with
    | k :: r, hol, hcl =>
      refine ⟨k, r, rfl, ?_, rfl⟩
      rintro rfl
      rw [← List.mem_singleton.mp hcl] at hol
      exact absurd (by rw [List.mem_singleton.mp hol]; exact hcr) hor
  · -- all refused
    have hall : ∀ k ∈ rest, -k ∈ old ++ [one] := fun k hk => (hf k).2.mp (g4 k hk)
    have hon : o ∉ old ++ [one] := fun g => g1 ((hf o).1.mpr g)
    have honly : ∀ k ∈ lo, k = o := fun k hk => by
      obtain ⟨h1, h2⟩ := (hlo k).mp hk
      rcases (hmem k).mp h1 with h1 | h1 | h1
      · exact h1
      · exact absurd (by rw [h1, Int.neg_neg]; exact hone) h2
      · exact absurd (hall k h1) h2
    rw [g2, g3]
    refine ⟨?_, (fun _ h => by cases h; exact hop'), hop.trans hp, fun qs hqs => ⟨fun g => .inr ?_, fun _ => .inr ⟨List.mem_append_right _ (.head _), hall⟩⟩, fun P _ g => hT P g⟩
    · by_cases hoc : -o ∈ old ++ [one]
      · refine .inl ⟨?_, o, rfl, hop', ho1⟩
        match lo, honly, hlo with
        | [], _, _ => rfl
        | k :: r, honly, hlo => exact absurd (by rw [honly k (.head _)]; exact hoc) ((hlo k).mp (.head _)).2
      · exact .inr (.inl ⟨o, only_one hlnd ((hlo o).mpr ⟨hop', hoc⟩) honly, hon, rfl⟩)
    · have g' : -o ∈ old := (in_snoc.mp g).resolve_right fun g => ho1 (by rw [← g, Int.neg_neg])
      rcases hS'.1 g' with g' | ⟨g', _⟩
      · exact absurd (in_snoc.mpr (.inl g')) hno
      · refine ⟨List.mem_append_left _ (hqs _ ((List.mem_cons.mp g').resolve_left fun e => hno ?_)), hall⟩
        rw [e]; exact hone
end Mine

namespace Mine
section
variable {prog : Program} {w : World} {A : Around} {s : Shared} {b : Heap} {L : Addr} {m : Loc} {ld : Ld} {env : Env} {sc : Scope}
/-- for .. in a list, a target of names -/
theorem iter_listA {Q : Flow → Shared → Prop} {elts : List Expr} {x1} {tp : Pos} {body : List Stmt} {ax : Addr} {items : List Value} {ep : Nat} {mm : Nat} (r : Room A mm)
    (z : Z b L m ld s.heap) (hax : ld ax = some (listOf items.toArray ep))
    (J : Addr → Nat → Loc → Ld → Prop)
    (h0 : ∀ I ld₁, ld I = none → (∀ a o, ld a = some o → ld₁ a = some o) → J I 0 m ld₁)
    (hJ : ∀ I, ld I = none → ∀ i m ld ld', J I i m ld → (∀ a, a ≠ I → ld' a = ld a) → J I i m ld')
    (turn : ∀ I oI i v m₁ lq h₁ tk₁, ld I = none → lq I = some oI → items[i]? = some v → J I i m₁ lq → lq ax = some (listOf items.toArray ep) → Z b L m₁ lq h₁ →
      wpAny (model prog w) A (assign (.Tuple elts x1 tp) env v) (fun _ s₂ => wpAny (model prog w) A (execs body env) (TurnPost b L [I, ax] (J I (i + 1)) lq s Q) (fun _ _ => False) s₂) (fun _ _ => False) { s with heap := h₁, toks := tk₁ })
    (done : ∀ m₁ lq h₁ tk₁ I, J I items.length m₁ lq → Z b L m₁ lq h₁ → Q .next { s with heap := h₁, toks := tk₁ }) :
    wpAny (model prog w) A (pyIter (.ref ax)) (fun it s₂ => codeAny (model prog w) A (.forLoop (.Tuple elts x1 tp) it body [] env) (fun r s' => match r with | .ok f => Q f s' | .error e => cameBackBy (model prog w) A env (fun _ _ => False) e s') s₂) (fun _ _ => False) s := by
  have hl : Heap.IsList s.heap ax items.toArray := z.isList hax
  refine wpAny_pyIter_list hl ?_
  have hne : ax ≠ s.heap.objs.size := ne_of_lt1 (Heap.lt_size (z.led _ _ hax))
  have z₂ := z.push { cls := .type "list_iterator", data := .fields #[.ref ax, .int 0 0] }
  have hI0 : ld s.heap.objs.size = none := z.size_none
  have hIb : b.get? s.heap.objs.size = none := New.none (b := b) (z.bs.size)
  refine loopA (s := { s with heap := s.heap.push _ }) (fp := [s.heap.objs.size, ax]) (wr := [s.heap.objs.size]) (Q := Q) (fun f s' q => q) (Walks.list (prog := prog) (w := w) r.handled s.heap.objs.size ax hne items.toArray) ?_ ?_ ?_ z₂ ?_ ?_ ?_
    (fun i m ld => J s.heap.objs.size i m ld ∧ ld ax = some (listOf items.toArray ep)) ?_ ?_ ?_ ?_
  · intro i s' v Q' E' _ hst q; exact go_listiter hst.1 q
  · intro a ha; rw [List.mem_singleton.mp ha]; exact hIb
  · intro hm
    rcases List.mem_cons.mp hm with q | q
    · exact absurd z.ns.lt (by rw [q]; exact Nat.lt_irrefl _)
    · exact z.neL hax (List.mem_singleton.mp q).symm
  · intro a ha
    rcases List.mem_cons.mp ha with q | q
    · rw [q, upd_self]; rfl
    · rw [List.mem_singleton.mp q, upd_ne hne, hax]; rfl
  · rintro i h' ⟨⟨o, ho, _⟩, _⟩ a ha
    rw [List.mem_singleton.mp ha, ho]; rfl
  · exact ⟨⟨_, Heap.get?_push_size _ rfl, rfl, rfl⟩, ⟨_, Heap.get?_push_of_some _ (z.led _ _ hax), rfl, _, rfl⟩⟩
  · rintro i m₁ l₁ l₂ ⟨j1, j2⟩ hk
    exact ⟨hJ _ hI0 i m₁ l₁ l₂ j1 fun a ha => hk a (fun q => ha (List.mem_singleton.mp q)), (hk ax fun q => hne (List.mem_singleton.mp q)).trans j2⟩
  · refine ⟨h0 _ _ hI0 fun a o q => ?_, (upd_ne hne).trans hax⟩
    rw [upd_ne (ne_of_lt1 (Heap.lt_size (z.led _ _ q)))]; exact q
  · rintro i v m₁ lq h₂ tk₂ hi hv ⟨j1, j2⟩ hin z₃
    obtain ⟨oI, hoI⟩ := Option.isSome_iff_exists.mp (hin s.heap.objs.size (by simp))
    refine wpAny_mono (turn s.heap.objs.size oI i v m₁ lq h₂ tk₂ hI0 hoI (by simpa using hv) j1 j2 z₃) (fun _ s₂ h₂ => wpAny_mono h₂ (fun f s' q => ?_) fun _ _ x => x) fun _ _ x => x
    have fin : TurnEnd b L [s.heap.objs.size, ax] (J s.heap.objs.size (i + 1)) lq s s' → TurnEnd b L [s.heap.objs.size, ax] (fun m ld => J s.heap.objs.size (i + 1) m ld ∧ ld ax = some (listOf items.toArray ep)) lq s s' := by
      rintro ⟨h₃, tk₃, m₃, lf, rfl, z₄, hj, hf⟩
      exact ⟨h₃, tk₃, m₃, lf, rfl, z₄, ⟨hj, (hf ax (by simp)).trans j2⟩, hf⟩
    cases f with
    | ret v => exact q
    | brk => exact q
    | next => exact fin q
    | cont => exact fin q
  · rintro m₁ lq h₂ tk₂ ⟨j1, _⟩ z₃
    exact done m₁ lq h₂ tk₂ _ (by simpa using j1) z₃
end
section
variable {w : World} {A : Around} {E : Value → Shared → Prop} {s : Shared} {mg mb : Str → Option Value} {b : Heap} {L : Addr} {m : Loc} {ld : Ld} {env : Env} {sc : Scope}
theorem Lo.refl {xs : List Str} : Lo xs m m := fun _ _ => rfl
theorem Lo.trans {xs : List Str} {m1 m2 m3 : Loc} (h : Lo xs m1 m2) (h' : Lo xs m2 m3) : Lo xs m1 m3 := fun x hx => (h' x hx).trans (h x hx)
theorem Lo.le {xs ys : List Str} {m1 m2 : Loc} (h : Lo xs m1 m2) (hs : ∀ x ∈ xs, x ∈ ys) : Lo ys m1 m2 := fun x hx => h x fun q => hx (hs x q)

/-- row, plain, contrary, given, wishes = an entry -/
theorem as_entry {F : Ld} {a : EA} {pls : List Int} {x1} {p1 p2 p3 p4 p5 pos : Pos} {Q : Unit → Shared → Prop} (hh : A.handled = none) (e : EnvIs env (crS w) L) (z : Z b L m ld s.heap) (hE : Ent b F a pls) (hF : Sub F ld)
    (h : ∀ h' tk m', Z b L m' ld h' → Lo ["row", "plain", "contrary", "given", "wishes"] m m' → m' "row" = some (.ref a.c) → m' "plain" = some (.ref a.pl) → m' "contrary" = some (.ref a.ct) → Q () { s with heap := h', toks := tk }) :
    wpAny (model PP w) A (assign (.Tuple [.Name "row" p1, .Name "plain" p2, .Name "contrary" p3, .Name "given" p4, .Name "wishes" p5] x1 pos) env (.ref a.e)) Q E s := by
  refine as_unpack hh z (hF _ _ hE.ent) rfl rfl fun h₁ z => ?_
  show wpAny _ A (assignInOrder [assign (.Name "row" p1) env, assign (.Name "plain" p2) env, assign (.Name "contrary" p3) env, assign (.Name "given" p4) env, assign (.Name "wishes" p5) env] _) _ _ _
  refine assignInOrder_cons (wpAny_assign_Name (st_loc e z fun h₂ z => ?_))
  refine assignInOrder_cons (wpAny_assign_Name (st_loc e z fun h₃ z => ?_))
  refine assignInOrder_cons (wpAny_assign_Name (st_loc e z fun h₄ z => ?_))
  refine assignInOrder_cons (wpAny_assign_Name (st_loc e z fun h₅ z => ?_))
  refine assignInOrder_cons (wpAny_assign_Name (st_loc e z fun h₆ z => assignInOrder_nil ?_))
  refine h _ _ _ z (fun x hx => ?_) rfl rfl rfl
  simp only [List.mem_cons, List.not_mem_nil, or_false, not_or] at hx
  rw [if_neg hx.2.2.2.2, if_neg hx.2.2.2.1, if_neg hx.2.2.1, if_neg hx.2.1, if_neg hx.1]
end
end Mine

namespace Mine
/-- rows: what never turns -/
structure RF (b : Heap) (F : Ld) (es : List (EA × List Int)) : Prop where
  ent : ∀ (j : Nat) a, es[j]? = some a → Ent b F a.1 a.2
  apart : ∀ (i j : Nat) a c, i ≠ j → es[i]? = some a → es[j]? = some c → a.1.l ≠ c.1.l
/-- rows: what turns -/
def RS (es : List (EA × List Int)) (ld : Ld) (g : Nat → List Int) : Prop := ∀ (j : Nat) a, es[j]? = some a → IntsAt ld a.1.l (g j)
/-- rows: the plain side -/
def GP (Ps : List Int → Prop) (es : List (EA × List Int)) (g : Nat → List Int) : Prop := ∀ (j : Nat) a, es[j]? = some a → (g j).Perm a.2 ∧ ∀ P, Ps P → Stab P (g j)
def Stars (now q : List Int) (es : List (EA × List Int)) (g : Nat → List Int) : Prop := ∀ (j : Nat) a, es[j]? = some a → Star now q (g j)
/-- all but the rows' lists and q as before -/
def KeepD (es : List (EA × List Int)) (q : Addr) (ld ld' : Ld) : Prop := ∀ x o, (∀ a ∈ es, x ≠ a.1.l) → x ≠ q → ld x = some o → ld' x = some o
theorem KeepD.refl {es : List (EA × List Int)} {q : Addr} {ld : Ld} : KeepD es q ld ld := fun _ _ _ _ h => h
theorem KeepD.trans {es : List (EA × List Int)} {q : Addr} {l1 l2 l3 : Ld} (h : KeepD es q l1 l2) (h' : KeepD es q l2 l3) : KeepD es q l1 l3 := fun x o a c d => h' x o a c (h x o a c d)
theorem RF.sub {b : Heap} {F ld ld' : Ld} {es : List (EA × List Int)} {q : Addr} (R : RF b F es) (hq : F q = none) (hF : Sub F ld) (k : KeepD es q ld ld') : Sub F ld' := fun x o h => k x o (fun a ha e => by
    obtain ⟨i, hi⟩ := List.getElem?_of_mem ha
    rw [e, (R.ent i a hi).fl] at h; cases h) (fun e => by rw [e, hq] at h; cases h) (hF x o h)

abbrev rowN : List Str := ["row", "plain", "contrary", "given", "wishes", "unit", "loose", "right"]
section
variable {w : World} {A : Around} {E : Value → Shared → Prop} {s : Shared} {mg mb : Str → Option Value} {b : Heap} {L : Addr} {m : Loc} {ld : Ld} {env : Env} {sc : Scope}

set_option maxHeartbeats 2000000 in
/-- a turn of the loop over the rows -/
theorem row_turn {F : Ld} {a : EA} {pls old lits qs q0 : List Int} {one : Int} {t : Tok} {q nw nc : Addr} {p : AsAddr} {f : Int → Option Bool} {seen asg : List Int} {Ps : List Int → Prop} {Q : Flow → Shared → Prop}
    (C : Cx (KK w) mg mb b) (r : Room A 3) (e : EnvIs env (crS w) L) (hce : env.cells = [(("now" : Str), nc)]) (z : Z b L m ld s.heap) (hF : Sub F ld) (hE : Ent b F a pls) (hl : IntsAt ld a.l lits)
    (hq : m "queue" = some (.ref q)) (hqD : IntsAt ld q qs) (hqn : New b q) (hql : qs.length ≤ 900) (hqa : q ≠ a.l) (hnc : CellIs F nc (some (.ref nw))) (hnw : IntsAt F nw (old ++ [one]))
    (hp : p.Ok b) (S : AS PP w F p f seen asg) (hrow : m "row" = some (.ref a.c)) (hpl : m "plain" = some (.ref a.pl)) (hct : m "contrary" = some (.ref a.ct)) (hheld : m "held" = some (.ref p.a)) (hone : m "one" = some (.int one t))
    (hperm : lits.Perm pls) (hPs : ∀ P, Ps P → Stab P lits) (hsub : ∀ P, Ps P → ∀ k ∈ P, k ∈ old) (hS : Star old (one :: q0) lits) (hq0 : ∀ k ∈ q0, k ∈ qs) (hf : HeldIs f (old ++ [one])) (hc : Clean (old ++ [one]))
    (h : ∀ h' tk m' ld' lits' qs', Z b L m' ld' h' → Lo ["unit", "loose", "right"] m m' → (∀ x o, x ≠ a.l → x ≠ q → ld x = some o → ld' x = some o) → IntsAt ld' a.l lits' → IntsAt ld' q qs' → (∀ k ∈ qs, k ∈ qs') → (∀ k ∈ qs', k ∈ qs ∨ k ∈ pls) → qs'.length ≤ qs.length + 1 →
      lits'.Perm pls → (∀ P, Ps P → Stab P lits') → Star (old ++ [one]) qs' lits' → Q .next { s with heap := h', toks := tk }) :
    wpAny (model PP w) A (execs (rowB w) env) Q (fun _ _ => False) s := by
  show wpAny _ _ (execs (.If (.Compare (.UnaryOp .USub (.Name "one" _) _) [.In] [.Subscript (.Name "row" _) (.Slice none _ none _) _] _) (touchB w) [] _ :: []) env) _ _ _
  obtain ⟨h1, h2, h3, t1, t2, t3, v1, v2, n, hd⟩ := hE.dict
  have h60 := hE.len
  have hll := hperm.length_eq
  have hcl : Cl ld a.c a.d a.l v1 v2 lits := ⟨hF _ _ hE.inst, ⟨h1, h2, h3, t1, t2, t3, n, hF _ _ hd⟩, hl⟩
  refine wpAny_execs_cons (wpAny_If (wpAny_isTrue_Compare1 (ev_neg e z hone fun u1 tk1 => ?_)))
  refine ev_cut (k := some 2) e C (r.le (by omega)) z hrow hcl (by omega) (fun Q' hQ => evalPart_some_step (wpAny_Constant_int (hQ _ _ (.int 2 _)))) fun D h₁ tk₁ vs hD z₁ hi => ?_
  refine in_ints z₁ upd_self hi (wpAny_truthy_bool ?_)
  have z := z.drop z₁ hD
  have hcut : cutBy (some 2) lits = lits.take 2 := rfl
  rw [hcut]
  by_cases hin : -one ∈ lits.take 2
  · rw [if_pos (decide_eq_true hin)]
    obtain ⟨g1, g2, g3, g4, g5⟩ := touch_plain hS hperm hE.nd hin hE.two hf hc
    refine touch_walk C r e hce z hF hE hl hperm hin hq hqD hqn hql hqa hnc hnw hp S hrow hpl hct hheld hone g1 g2 g3 fun h₂ tk₂ m₂ l₂ z₂ k1 k2 k3 k4 => ?_
    refine wpAny_execs_nil (h _ _ _ _ _ _ z₂ k1 k2 k3 k4 (fun k hk => List.mem_append_left _ hk) (fun k hk => (List.mem_append.mp hk).imp id fun hk => g2 k (Option.mem_toList.mp hk)) ?_ g3 (fun P hP => g5 P (hsub P hP) (hPs P hP)) (g4 qs hq0))
    rw [List.length_append]
    cases rwTold f lits one with
    | none => exact Nat.le_succ _
    | some k => exact Nat.le_refl _
  · rw [if_neg (by rw [decide_eq_false hin]; exact Bool.false_ne_true)]
    refine wpAny_execs_nil (wpAny_execs_nil (h _ _ _ _ _ _ z Lo.refl (fun _ _ _ _ g => g) hl hqD (fun _ g => g) (fun _ g => .inl g) (Nat.le_succ _) hperm hPs (Star.more ?_ hq0)))
    exact hS.far hin
end
end Mine

namespace Mine
section
variable {w : World} {A : Around} {E : Value → Shared → Prop} {s : Shared} {mg mb : Str → Option Value} {b : Heap} {L : Addr} {m : Loc} {ld : Ld} {env : Env} {sc : Scope}

set_option maxHeartbeats 2000000 in
/-- the loop over the rows -/
theorem rows_walk {F : Ld} {es : List (EA × List Int)} {g : Nat → List Int} {old q0 : List Int} {one : Int} {t : Tok} {q nw nc rD : Addr} {rn : Nat} {p : AsAddr} {f : Int → Option Bool} {seen asg : List Int} {Ps : List Int → Prop} {Q : Flow → Shared → Prop}
    (C : Cx (KK w) mg mb b) (r : Room A 3) (e : EnvIs env (crS w) L) (hce : env.cells = [(("now" : Str), nc)]) (z : Z b L m ld s.heap) (hF : Sub F ld) (hE : RF b F es) (hl : RS es ld g)
    (hrows : m "rows" = some (.ref rD)) (hrD : F rD = some (listOf (es.map fun a => Value.ref a.1.e).toArray rn))
    (hq : m "queue" = some (.ref q)) (hqF : F q = none) (hqD : IntsAt ld q q0) (hqn : New b q) (hql : q0.length + es.length ≤ 900) (hqa : ∀ a ∈ es, q ≠ a.1.l) (hnc : CellIs F nc (some (.ref nw))) (hnw : IntsAt F nw (old ++ [one]))
    (hp : p.Ok b) (S : AS PP w F p f seen asg) (hheld : m "held" = some (.ref p.a)) (hone : m "one" = some (.int one t))
    (hG : GP Ps es g) (hsub : ∀ P, Ps P → ∀ k ∈ P, k ∈ old) (hS : Stars old (one :: q0) es g) (hf : HeldIs f (old ++ [one])) (hc : Clean (old ++ [one]))
    (h : ∀ h' tk m' ld' g' qs', Z b L m' ld' h' → Lo rowN m m' → KeepD es q ld ld' → RS es ld' g' → IntsAt ld' q qs' → qs'.length ≤ q0.length + es.length → (∀ k ∈ qs', k ∈ q0 ∨ ∃ a ∈ es, k ∈ a.2) → GP Ps es g' → Stars (old ++ [one]) qs' es g' → Q .next { s with heap := h', toks := tk }) :
    wpAny (model PP w) A (exec ((newB w).getD 3 (.Pass default)) env) Q (fun _ _ => False) s := by
  show wpAny _ _ (exec (.For (.Tuple [.Name "row" _, .Name "plain" _, .Name "contrary" _, .Name "given" _, .Name "wishes" _] _ _) (.Name "rows" _) (rowB w) [] _) env) _ _ _
  refine wpAny_For (ev_loc e z hrows ?_) (by intro _; rfl)
  refine iter_listA r z (hF _ _ hrD) (fun I i m' l' => Lo rowN m m' ∧ KeepD es q ld l' ∧ ∃ g' qs, RS es l' g' ∧ IntsAt l' q qs ∧ (∀ k ∈ q0, k ∈ qs) ∧ (∀ k ∈ qs, k ∈ q0 ∨ ∃ a ∈ es, k ∈ a.2) ∧ qs.length ≤ q0.length + i ∧ GP Ps es g' ∧
    ∀ (j : Nat) a, es[j]? = some a → if j < i then Star (old ++ [one]) qs (g' j) else Star old (one :: q0) (g' j)) ?_ ?_ ?_ ?_
  · intro I ld₁ hI k
    exact ⟨Lo.refl, fun x o _ _ e => k x o e, g, q0, fun j a ha => (hl j a ha).sub k, hqD.sub k, fun _ h => h, fun _ h => .inl h, Nat.le_refl _, hG, fun j a ha => by rw [if_neg (Nat.not_lt_zero _)]; exact hS j a ha⟩
  · rintro I hI i m₁ l₁ l₂ ⟨j1, j2, g', qs, j3, j4, j5⟩ k
    have ne : ∀ x o, ld x = some o → l₂ x = l₁ x := fun x o e => k x fun e' => by rw [e', hI] at e; cases e
    refine ⟨j1, fun x o c1 c2 e => (ne x o e).trans (j2 x o c1 c2 e), g', qs, fun j a ha => ?_, ?_, j5⟩
    · obtain ⟨_, _, e', _⟩ := hl j a ha
      exact (j3 j a ha).eq (ne _ _ e')
    · obtain ⟨_, _, e', _⟩ := hqD
      exact j4.eq (ne _ _ e')
  · rintro I oI i v m₁ lq h₁ tk₁ hI hoI hv ⟨j1, j2, g', qs, j3, j4, j5, j9, j6, j7, j8⟩ hqx z
    obtain ⟨a, ha, rfl⟩ : ∃ a, es[i]? = some a ∧ v = .ref a.1.e := by
      rw [List.getElem?_map] at hv
      obtain ⟨a, h1, h2⟩ := Option.map_eq_some_iff.mp hv
      exact ⟨a, h1, h2.symm⟩
    have hlt : i < es.length := (List.getElem?_eq_some_iff.mp ha).1
    have hF1 : Sub F lq := hE.sub hqF hF j2
    have hqi := j8 i a ha
    rw [if_neg (Nat.lt_irrefl _)] at hqi
    obtain ⟨hperm, hPs⟩ := j7 i a ha
    have lo : ∀ {x : Str}, x ∉ (["row", "plain", "contrary", "given", "wishes"] : List Str) → x ∉ rowN → ∀ {m' : Loc}, Lo ["row", "plain", "contrary", "given", "wishes"] m₁ m' → m' x = m x := fun h1 h2 _ h3 => (h3 _ h1).trans (j1 _ h2)
    refine as_entry r.handled e z (hE.ent i a ha) hF1 fun h₂ tk₂ m₂ z k1 k2 k3 k4 => ?_
    refine row_turn C r e hce z hF1 (hE.ent i a ha) (j3 i a ha) ((lo (by decide) (by decide) k1).trans hq) j4 hqn (by omega) (hqa a (List.mem_of_getElem? ha)) hnc hnw hp S k2 k3 k4
      ((lo (by decide) (by decide) k1).trans hheld) ((lo (by decide) (by decide) k1).trans hone) hperm hPs hsub hqi j5 hf hc fun h₃ tk₃ m₃ l₃ lits' qs' z n1 n2 n3 n4 n5 n10 n6 n7 n8 n9 => ?_
    have neI : ∀ x o, ld x = some o → I ≠ x := fun x o e e' => by rw [← e', hI] at e; cases e
    obtain ⟨_, _, eq0, _⟩ := hqD
    refine ⟨_, _, _, _, rfl, z, ⟨j1.trans ((k1.le (by decide)).trans (n1.le (by decide))), fun x o c1 c2 e => n2 _ _ (c1 a (List.mem_of_getElem? ha)) c2 (j2 x o c1 c2 e), fun j => if j = i then lits' else g' j, qs', fun j c hj => ?_, n4, fun k hk => n5 k (j5 k hk), fun k hk => (n10 k hk).elim (j9 k) fun hk => .inr ⟨a, List.mem_of_getElem? ha, hk⟩, by omega, fun j c hj => ?_, fun j c hj => ?_⟩, fun x hx => ?_⟩
    · dsimp only
      by_cases hji : j = i
      · subst hji; rw [ha] at hj; cases hj; rw [if_pos rfl]; exact n3
      · rw [if_neg hji]
        obtain ⟨vs, n, e1, e2⟩ := j3 j c hj
        exact ⟨vs, n, n2 _ _ (hE.apart j i c a hji hj ha) (fun e => hqa c (List.mem_of_getElem? hj) e.symm) e1, e2⟩
    · dsimp only
      by_cases hji : j = i
      · subst hji; rw [ha] at hj; cases hj; rw [if_pos rfl]; exact ⟨n7, n8⟩
      · rw [if_neg hji]; exact j7 j c hj
    · dsimp only
      by_cases hji : j = i
      · subst hji; rw [ha] at hj; cases hj; rw [if_pos rfl, if_pos (Nat.lt_succ_self _)]; exact n9
      · rw [if_neg hji]
        have := j8 j c hj
        by_cases hlt' : j < i
        · rw [if_pos hlt'] at this; rw [if_pos (Nat.lt_succ_of_lt hlt')]; exact this.more n5
        · rw [if_neg hlt'] at this; rw [if_neg (by omega)]; exact this
    · rcases List.mem_cons.mp hx with rfl | hx
      · rw [n2 _ _ (let ⟨_, _, e, _⟩ := hl i a ha; neI _ _ e) (neI _ _ eq0) hoI, hoI]
      · rw [List.mem_singleton.mp hx, hqx, n2 _ _ ?_ ?_ hqx]
        · intro e'; rw [e', (hE.ent i a ha).fl] at hrD; cases hrD
        · intro e'; rw [e', hqF] at hrD; cases hrD
  · rintro m₁ lq h₁ tk₁ I ⟨j1, j2, g', qs, j3, j4, j5, j9, j6, j7, j8⟩ z
    rw [List.length_map] at j6 j8
    refine h _ _ _ _ g' qs z j1 j2 j3 j4 j6 j9 j7 fun j a ha => ?_
    have := j8 j a ha
    rwa [if_pos (List.getElem?_eq_some_iff.mp ha).1] at this
end
end Mine

namespace Mine
def absL (hs : List Int) : List Int := hs.map fun k => (k.natAbs : Int)
theorem inj_map {l : List Int} {f : Int → Int} (hn : (l.map f).Nodup) : ∀ {a b : Int}, a ∈ l → b ∈ l → f a = f b → a = b := by
  induction l with
  | nil => intro a b h; cases h
  | cons c l ih =>
    rw [List.map_cons, List.nodup_cons] at hn
    intro a b ha hb e
    rcases List.mem_cons.mp ha with h1 | h1 <;> rcases List.mem_cons.mp hb with h2 | h2
    · rw [h1, h2]
    · exact absurd (List.mem_map.mpr ⟨b, h2, by rw [← e, h1]⟩) hn.1
    · exact absurd (List.mem_map.mpr ⟨a, h1, by rw [e, h2]⟩) hn.1
    · exact ih hn.2 h1 h2 e
/-- what is held: names apart, 1 to 9 -/
structure HsOk (hs : List Int) : Prop where
  nd : (absL hs).Nodup
  rng : ∀ k ∈ hs, 1 ≤ k.natAbs ∧ k.natAbs ≤ 9
theorem HsOk.nodup {hs : List Int} (h : HsOk hs) : hs.Nodup := List.Pairwise.imp (fun q e => q (by rw [e])) (List.pairwise_map.mp h.nd)
theorem HsOk.len {hs : List Int} (h : HsOk hs) : hs.length ≤ 19 := rng_le h.nodup fun k hk => by have := h.rng k hk; omega
theorem HsOk.clean {hs : List Int} (h : HsOk hs) : Clean hs := fun k hk hk' => by
  have := inj_map h.nd hk hk' (by omega)
  have := h.rng k hk; omega
theorem Wi.abs {k : Int} (h : Wi k) : 1 ≤ k.natAbs ∧ k.natAbs ≤ 5 := by obtain ⟨h1, h2, h3⟩ := h; omega
theorem notin_abs {hs : List Int} {k : Int} (h1 : k ∉ hs) (h2 : -k ∉ hs) : (k.natAbs : Int) ∉ absL hs := fun q => by
  obtain ⟨a, ha, e⟩ := List.mem_map.mp q
  have : a = k ∨ a = -k := by omega
  rcases this with rfl | rfl
  · exact h1 ha
  · exact h2 ha
theorem absL_snoc {hs : List Int} {k : Int} : absL (hs ++ [k]) = absL hs ++ [(k.natAbs : Int)] := List.map_append
theorem HsOk.push {hs : List Int} {k : Int} (h : HsOk hs) (hk : Wi k) (h1 : k ∉ hs) (h2 : -k ∉ hs) : HsOk (hs ++ [k]) := by
  refine ⟨?_, fun j hj => ?_⟩
  · rw [absL_snoc, List.nodup_append]
    refine ⟨h.nd, by simp, fun a ha b hb e => notin_abs h1 h2 ?_⟩
    rw [← List.mem_singleton.mp hb, ← e]; exact ha
  · rcases in_snoc.mp hj with q | rfl
    · exact h.rng j q
    · have := hk.abs; omega
theorem HeldIs.push {f : Int → Option Bool} {hs : List Int} {k : Int} (h : HeldIs f hs) (hk : Wi k) (h1 : k ∉ hs) (h2 : -k ∉ hs) :
    HeldIs (fun i => if i = -k then some (!true) else if i = k then some true else f i) (hs ++ [k]) := by
  intro j
  rw [in_snoc, in_snoc]
  have hk0 := hk.1
  by_cases q1 : j = -k
  · subst q1; simp [h2]; omega
  · by_cases q2 : j = k
    · subst q2; simp [q1, h2]; omega
    · simp only [if_neg q1, if_neg q2]
      rw [(h j).1, (h j).2]
      have : -j ≠ k := by omega
      simp [q2, this]
end Mine

namespace Mine
/-- list l of ints turned -/
theorem IntsAt.keep {ld ld' : Ld} {l : Addr} {ns : List Int} (h : IntsAt ld l ns) (k : ∀ o, ld l = some o → ld' l = some o) : IntsAt ld' l ns := let ⟨vs, n, a, r⟩ := h; ⟨vs, n, k _ a, r⟩
theorem IntsAt.notW {prog : Program} {w : World} {ld : Ld} {p : AsAddr} {f : Int → Option Bool} {seen asg ns : List Int} {l : Addr} (h : IntsAt ld l ns) (S : AS prog w ld p f seen asg) : l ∉ p.W := fun hm => by
  obtain ⟨vs, n, hl, _⟩ := h
  obtain ⟨h1, h2, h3, h4, h5, h6, t1, t2, t3, t4, t5, t6, nn, hdict⟩ := S.dict
  obtain ⟨o1, kvs1, hx1, hk1, _⟩ := S.data
  obtain ⟨o2, kvs2, hx2, hk2, _⟩ := S.orig
  obtain ⟨o3, hx3, hk3, _⟩ := S.seen
  obtain ⟨o4, hx4, hk4, _⟩ := S.asg
  obtain ⟨o5, _, hx5, hk5, _⟩ := S.nk
  simp only [AsAddr.W, List.mem_cons, List.not_mem_nil, or_false] at hm
  rcases hm with q | q | q | q | q | q
  · exact ne_of_cls hl hdict (by simp) q
  · exact ne_of_cls hl hx1 (by rw [dictOf_cls hk1]; simp) q
  · exact ne_of_cls hl hx2 (by rw [dictOf_cls hk2]; simp) q
  · exact ne_of_cls hl hx3 (by rw [setK_cls hk3]; simp) q
  · exact ne_of_cls hl hx4 (by rw [setK_cls hk4]; simp) q
  · exact ne_of_cls hl hx5 (by rw [setK_cls hk5]; simp) q
theorem IntsAt.neA {prog : Program} {w : World} {ld : Ld} {p : AsAddr} {f : Int → Option Bool} {seen asg ns : List Int} {l : Addr} (h : IntsAt ld l ns) (S : AS prog w ld p f seen asg) : p.a ≠ l := let ⟨_, _, hl, _⟩ := h; ne_of_cls S.inst hl (by simp)
section
variable {w : World} {A : Around} {E : Value → Shared → Prop} {s : Shared} {mg mb : Str → Option Value} {b : Heap} {L : Addr} {m : Loc} {ld : Ld} {env : Env} {sc : Scope}

set_option maxHeartbeats 2000000 in
/-- held[one] = True; level.append(one); now = granted + level -/
theorem now_walk {p : AsAddr} {f : Int → Option Bool} {seen asg Lv G : List Int} {one : Int} {t : Tok} {lv gD nc : Addr} {rest : List Stmt} {Q : Flow → Shared → Prop}
    (C : Cx (KK w) mg mb b) (r : Room A 3) (e : EnvIs env (crS w) L) (hce : env.cells = [(("now" : Str), nc)]) (z : Z b L m ld s.heap) (hp : p.Ok b) (S : AS PP w ld p f seen asg) (hW : Wi one)
    (hheld : m "held" = some (.ref p.a)) (hone : m "one" = some (.int one t)) (hlv : m "level" = some (.ref lv)) (hgr : m "granted" = some (.ref gD)) (hlD : IntsAt ld lv Lv) (hln : New b lv) (hll : Lv.length ≤ 100) (hgD : IntsAt ld gD G) (hgl : G.length ≤ 100) (hgne : gD ≠ lv) (hnc : ∃ ov, CellIs ld nc ov) (hncn : New b nc)
    (hncW : nc ∉ p.W) (hncA : p.a ≠ nc)
    (h : ∀ h' tk ld' D seen' asg', Z b L m ld' h' → (∀ x o, x ∉ p.W → x ≠ lv → x ≠ nc → ld x = some o → ld' x = some o) → ld D = none → IntsAt ld' lv (Lv ++ [one]) → IntsAt ld' D (G ++ Lv ++ [one]) → CellIs ld' nc (some (.ref D)) →
      asg'.Perm (if (one.natAbs : Int) ∈ asg then asg else (one.natAbs : Int) :: asg) → AS PP w ld' p (fun i => if i = -one then some (!true) else if i = one then some true else f i) seen' asg' → wpAny (model PP w) A (execs rest env) Q (fun _ _ => False) { s with heap := h', toks := tk }) :
    wpAny (model PP w) A (execs ((newB w).getD 0 (.Pass default) :: (newB w).getD 1 (.Pass default) :: (newB w).getD 2 (.Pass default) :: rest) env) Q (fun _ _ => False) s := by
  show wpAny _ _ (execs (.Assign [.Subscript (.Name "held" _) (.Name "one" _) _] (.Constant (.bool true) _ _) _ :: .Expr (.Call (.Attribute (.Name "level" _) "append" _) [.Name "one" _] [] _) _ :: .Assign [.Name "now" _] (.BinOp (.Name "granted" _) .Add (.Name "level" _) _) _ :: rest) env) _ _ _
  obtain ⟨h1, h2, h3, h4, h5, h6, t1, t2, t3, t4, t5, t6, nn, hdict⟩ := S.dict
  obtain ⟨ov, hcell⟩ := hnc
  have hab := hW.abs
  refine wpAny_execs_cons (wpAny_Assign_Subscript (wpAny_Constant_bool (ev_loc e z hheld (ev_loc e z hone (set_inst C z S.inst hdict rfl rfl rfl ?_)))))
  refine setitem_spec (ak := (one.natAbs : Int)) C z.bs (r.le (by omega)) hp (S.here z) (by split <;> omega) (by omega) fun h₁ tk₁ l1 seen' asg' led R hps hpa S' => ?_
  have z₁ := z.calls hp.W (S.notL z) led R
  have S₁ := S.mixed S'
  have k₁ : ∀ x o, x ∉ p.W → ld x = some o → mix p.W l1 ld x = some o := fun x o hx q => (mix_out hx).trans q
  have lv₁ : IntsAt (mix p.W l1 ld) lv Lv := hlD.keep fun o q => k₁ _ _ (hlD.notW S) q
  have gD₁ : IntsAt (mix p.W l1 ld) gD G := hgD.keep fun o q => k₁ _ _ (hgD.notW S) q
  have nc₁ : CellIs (mix p.W l1 ld) nc ov := let ⟨o, q, q'⟩ := hcell; ⟨o, k₁ _ _ hncW q, q'⟩
  have n₁ : ∀ x, mix p.W l1 ld x = none → ld x = none := fun x q => by
    by_cases hx : x ∈ p.W
    · obtain ⟨o, q'⟩ := S₁.some hx; rw [q] at q'; cases q'
    · rwa [mix_out hx] at q
  have hlW := hlD.notW S
  have hlA := hlD.neA S
  generalize mix p.W l1 ld = l2 at *
  clear hdict led R S' hps hlD hgD hcell z S
  dsimp only
  obtain ⟨lvs, ln, hl2, hli⟩ := lv₁
  obtain ⟨gvs, gn, hg2, hgi⟩ := gD₁
  have hll' := hli.length
  have hgl' := hgi.length
  refine wpAny_execs_cons (ex_flat e (MethodCall_ (ev_loc e z₁ hlv (lm_append z₁ hl2 (callWith_method1 (args_cons (ev_loc e z₁ hone (args_nil ?_))))))))
  refine l_append z₁ hl2 hln (by omega) fun h₂ z₂ => ⟨fun _ q => (nomatch q), ?_⟩
  dsimp only
  have hli2 : IntsAre (lvs ++ [Value.int one t]) (Lv ++ [one]) := hli.append (.cons _ _ .nil)
  refine wpAny_execs_cons (wpAny_Assign_Name (wpAny_BinOp (ev_loc e z₂ hgr (ev_loc e z₂ hlv (l_add z₂ ((upd_ne hgne).trans hg2) upd_self (by omega) (by rw [List.length_append]; show lvs.length + 1 ≤ 1000; omega) fun D h₃ hD hDn z₃ => ?_)))))
  have hncl : nc ≠ lv := fun e => by
    obtain ⟨o, q, q'⟩ := nc₁
    rw [e, hl2] at q; cases q; cases q'
  have hD2 : l2 D = none := by
    by_cases q : D = lv
    · rw [q, upd_self] at hD; cases hD
    · rwa [upd_ne q] at hD
  have hncD : nc ≠ D := fun e => by
    obtain ⟨o, q, q'⟩ := nc₁
    rw [e, hD2] at q; cases q
  have hlvD : lv ≠ D := fun e => by rw [← e, hl2] at hD2; cases hD2
  have up : ∀ x o, x ≠ lv → l2 x = some o → upd (upd l2 lv (listOf (lvs ++ [Value.int one t]).toArray (ln + 1))) D (listOf (gvs ++ (lvs ++ [Value.int one t])).toArray 0) x = some o := fun x o q q' => upd_old hD ((upd_ne q).trans q')
  refine st_cell e (by rw [hce]; rfl) z₃ (let ⟨o, q, q'⟩ := nc₁; ⟨o, up _ _ hncl q, q'⟩) hncn.none fun h₄ l4 z₄ hc4 k4 => ?_
  refine h h₄ _ l4 D seen' asg' z₄ (fun x o q1 q2 q3 q4 => (k4 x q3).trans (up _ _ q2 (k₁ _ _ q1 q4))) (n₁ _ hD2) ⟨_, _, (k4 _ (Ne.symm hncl)).trans (upd_old hD upd_self), hli2⟩ ⟨_, _, (k4 _ (Ne.symm hncD)).trans upd_self, by rw [List.append_assoc]; exact hgi.append hli2⟩ hc4 hpa
    (S₁.congr ?_ fun c hc => ?_)
  · rw [k4 _ hncA, up _ _ hlA S₁.inst, S₁.inst]
  · obtain ⟨o, q⟩ := S₁.some hc
    rw [k4 _ (fun e => hncW (e ▸ hc)), up _ _ (fun e => hlW (e ▸ hc)) q, q]
end
end Mine

namespace Mine
open Classical in
/-- what stands still in the loop over the rows -/
noncomputable def cutF (es : List (EA × List Int)) (q : Addr) (ld : Ld) : Ld := fun x => if x = q ∨ ∃ a ∈ es, x = a.1.l then none else ld x
section
variable {es : List (EA × List Int)} {q : Addr} {ld : Ld}
theorem cutF_sub : Sub (cutF es q ld) ld := fun x o h => by unfold cutF at h; split at h; cases h; exact h
theorem cutF_q : cutF es q ld q = none := by unfold cutF; rw [if_pos (.inl rfl)]
theorem cutF_l {a : EA × List Int} (h : a ∈ es) : cutF es q ld a.1.l = none := by unfold cutF; rw [if_pos (.inr ⟨a, h, rfl⟩)]
theorem cutF_ne {x : Addr} (h1 : x ≠ q) (h2 : ∀ a ∈ es, x ≠ a.1.l) : cutF es q ld x = ld x := by
  unfold cutF; rw [if_neg]
  rintro (h | ⟨a, ha, h⟩)
  · exact h1 h
  · exact h2 a ha h
theorem cutF_of {F : Ld} (hq : F q = none) (hl : ∀ a ∈ es, F a.1.l = none) (hF : Sub F ld) : Sub F (cutF es q ld) := fun x o h =>
  (cutF_ne (fun e => by rw [e, hq] at h; cases h) fun a ha e => by rw [e, hl a ha] at h; cases h).trans (hF x o h)
end
theorem Ent0.mono {F F' : Ld} {a : EA} {pls : List Int} (E : Ent0 F a pls) (h : Sub F F') : Ent0 F' a pls where
  ent := h _ _ E.ent
  inst := h _ _ E.inst
  dict := let ⟨h1, h2, h3, t1, t2, t3, v1, v2, n, q⟩ := E.dict; ⟨h1, h2, h3, t1, t2, t3, v1, v2, n, h _ _ q⟩
  plain := E.plain.sub h
  con := let ⟨ns, q, r⟩ := E.con; ⟨ns, q.sub h, r⟩
  same := let ⟨ks, q1, q2, q3⟩ := E.same; ⟨ks, q1.sub h, q2.sub h, q3⟩
  nd := E.nd
  len := E.len
theorem Ent.mono {b : Heap} {F F' : Ld} {a : EA} {pls : List Int} (E : Ent b F a pls) (h : Sub F F') (hl : F' a.l = none) : Ent b F' a pls := ⟨E.toEnt0.mono h, E.two, hl, E.nl⟩
theorem RF.mono {b : Heap} {F F' : Ld} {es : List (EA × List Int)} (R : RF b F es) (h : Sub F F') (hl : ∀ a ∈ es, F' a.1.l = none) : RF b F' es :=
  ⟨fun j a ha => (R.ent j a ha).mono h (hl a (List.mem_of_getElem? ha)), R.apart⟩
theorem RF.fl {b : Heap} {F : Ld} {es : List (EA × List Int)} (R : RF b F es) : ∀ a ∈ es, F a.1.l = none := fun a ha => by
  obtain ⟨i, hi⟩ := List.getElem?_of_mem ha
  exact (R.ent i a hi).fl

abbrev carryN : List Str := "one" :: "queue" :: rowN
/-- what stands still in a run of _law_carry -/
structure CF (b : Heap) (F : Ld) (h₀ : Heap) (es : List (EA × List Int)) (p : AsAddr) (nc lv rD gD : Addr) (G : List Int) (m0 : Loc) : Prop where
  rf : RF b F es
  fw : ∀ c ∈ p.W, F c = none
  sub : Sub F h₀.get?
  rows : ∃ rn, F rD = some (listOf (es.map fun a => Value.ref a.1.e).toArray rn)
  gr : IntsAt F gD G
  ok : p.Ok b
  lvn : New b lv
  lv0 : h₀.get? lv = none
  ncn : New b nc
  nc0 : h₀.get? nc = none
  nclv : nc ≠ lv
  l0 : ∀ a ∈ es, ∃ o, h₀.get? a.1.l = some o
  w0 : ∀ c ∈ p.W, ∃ o, h₀.get? c = some o
  a0 : ∃ o, h₀.get? p.a = some o
  wl : ∀ a ∈ es, a.1.l ∉ p.W
  al : ∀ a ∈ es, p.a ≠ a.1.l
  len : es.length ≤ 9
  wi : ∀ a ∈ es, Wish a.2
  mh : m0 "held" = some (.ref p.a)
  mr : m0 "rows" = some (.ref rD)
  mg : m0 "granted" = some (.ref gD)
  ml : m0 "level" = some (.ref lv)
/-- what turns -/
structure CS (w : World) (b : Heap) (h₀ : Heap) (es : List (EA × List Int)) (p : AsAddr) (nc lv : Addr) (m0 m : Loc) (ld : Ld) (q : Addr) (f : Int → Option Bool) (seen asg : List Int) (g : Nat → List Int) (Lv qs : List Int) : Prop where
  mlo : Lo carryN m0 m
  mq : m "queue" = some (.ref q)
  keep : ∀ x o, x ∉ p.W → (∀ a ∈ es, x ≠ a.1.l) → h₀.get? x = some o → ld x = some o
  as : AS PP w ld p f seen asg
  rs : RS es ld g
  lvD : IntsAt ld lv Lv
  qD : IntsAt ld q qs
  nc : ∃ ov, CellIs ld nc ov
  qn : New b q
  q0 : h₀.get? q = none
  qlv : q ≠ lv
/-- the plain side -/
structure CP (Ps : List Int → Prop) (G : List Int) (es : List (EA × List Int)) (g : Nat → List Int) (f : Int → Option Bool) (asg Lv : List Int) : Prop where
  ok : HsOk (G ++ Lv)
  held : HeldIs f (G ++ Lv)
  asg : asg.Perm (absL (G ++ Lv))
  gp : GP Ps es g
theorem ne_of_obj {ld : Ld} {a c : Addr} {oa oc : Obj} (ha : ld a = some oa) (hc : ld c = some oc) (h : oa.data ≠ oc.data) : a ≠ c := fun e => by subst e; rw [ha] at hc; cases hc; exact h rfl
theorem IntsAt.neC {ld : Ld} {l c : Addr} {ns : List Int} {v : Option Value} (h : IntsAt ld l ns) (hc : CellIs ld c v) : l ≠ c := by
  obtain ⟨_, _, q1, _⟩ := h
  obtain ⟨o, q2, q3⟩ := hc
  exact ne_of_obj q1 q2 (by rw [q3]; simp)
theorem ne_none {α : Type} {f : Addr → Option α} {a c : Addr} {o : α} (h : f a = some o) (h' : f c = none) : a ≠ c := fun e => by rw [e, h'] at h; cases h
section
variable {w : World} {A : Around} {E : Value → Shared → Prop} {s : Shared} {mg mb : Str → Option Value} {b : Heap} {L : Addr} {m m0 : Loc} {ld F : Ld} {env : Env} {sc : Scope} {h₀ : Heap} {es : List (EA × List Int)} {p : AsAddr} {nc lv rD gD q : Addr} {G Lv qs seen asg : List Int} {f : Int → Option Bool} {g : Nat → List Int}
theorem CF.subL (R : CF b F h₀ es p nc lv rD gD G m0) (S : CS w b h₀ es p nc lv m0 m ld q f seen asg g Lv qs) : Sub F ld := fun x o h =>
  S.keep x o (fun hm => by rw [R.fw x hm] at h; cases h) (fun a ha e => by rw [e, R.rf.fl a ha] at h; cases h) (R.sub x o h)

set_option maxHeartbeats 2000000 in
/-- a new wish is taken up -/
theorem new_walk {Ps : List Int → Prop} {one : Int} {t : Tok} {Q : Flow → Shared → Prop}
    (C : Cx (KK w) mg mb b) (r : Room A 3) (e : EnvIs env (crS w) L) (hce : env.cells = [(("now" : Str), nc)]) (z : Z b L m ld s.heap) (R : CF b F h₀ es p nc lv rD gD G m0) (S : CS w b h₀ es p nc lv m0 m ld q f seen asg g Lv qs) (P : CP Ps G es g f asg Lv)
    (hone : m "one" = some (.int one t)) (hW : Wi one) (h1 : one ∉ G ++ Lv) (h2 : -one ∉ G ++ Lv) (hsub : ∀ P, Ps P → ∀ k ∈ P, k ∈ G) (hst : Stars (G ++ Lv) (one :: qs) es g) (hql : qs.length ≤ 800)
    (h : ∀ h' tk m' ld' f' seen' asg' g' qs', Z b L m' ld' h' → CS w b h₀ es p nc lv m0 m' ld' q f' seen' asg' g' (Lv ++ [one]) qs' → CP Ps G es g' f' asg' (Lv ++ [one]) → Stars (G ++ (Lv ++ [one])) qs' es g' → qs'.length ≤ qs.length + 9 → (∀ k ∈ qs', k ∈ qs ∨ Wi k) → Q .next { s with heap := h', toks := tk }) :
    wpAny (model PP w) A (execs (newB w) env) Q (fun _ _ => False) s := by
  show wpAny _ _ (execs ((newB w).getD 0 (.Pass default) :: (newB w).getD 1 (.Pass default) :: (newB w).getD 2 (.Pass default) :: [(newB w).getD 3 (.Pass default)]) env) _ _ _
  have hF := R.subL S
  have lo : ∀ {x : Str} {v : Option Value}, m0 x = v → x ∉ carryN → m x = v := fun q q' => (S.mlo _ q').trans q
  have hlen := P.ok.len
  rw [List.length_append] at hlen
  obtain ⟨ov, hcell⟩ := S.nc
  have hncW : nc ∉ p.W := fun hm => by obtain ⟨o, q⟩ := R.w0 _ hm; rw [R.nc0] at q; cases q
  have hncA : p.a ≠ nc := fun e => by obtain ⟨o, q⟩ := R.a0; rw [e, R.nc0] at q; cases q
  have hlvl : ∀ a ∈ es, a.1.l ≠ lv := fun a ha => by obtain ⟨o, q⟩ := R.l0 a ha; exact ne_none q R.lv0
  have hlnc : ∀ a ∈ es, a.1.l ≠ nc := fun a ha => by obtain ⟨o, q⟩ := R.l0 a ha; exact ne_none q R.nc0
  have hlq : ∀ a ∈ es, a.1.l ≠ q := fun a ha => by obtain ⟨o, q⟩ := R.l0 a ha; exact ne_none q S.q0
  have hqc : q ≠ nc := S.qD.neC hcell
  obtain ⟨gv, gn, hg1, hg2⟩ := R.gr
  have hglv : gD ≠ lv := ne_none (R.sub _ _ hg1) R.lv0
  have hgnc : gD ≠ nc := ne_none (R.sub _ _ hg1) R.nc0
  refine now_walk C r e hce z R.ok S.as hW (lo R.mh (by decide)) hone (lo R.ml (by decide)) (lo R.mg (by decide)) S.lvD R.lvn (by omega) (R.gr.sub hF) (by omega) hglv ⟨ov, hcell⟩ R.ncn hncW hncA fun h₁ tk₁ l1 D seen' asg' z k1 hD lv1 now1 nc1 hpa S1 => ?_
  have keep1 : ∀ x o, x ∉ p.W → (∀ a ∈ es, x ≠ a.1.l) → h₀.get? x = some o → l1 x = some o := fun x o q1 q2 q3 => k1 x o q1 (ne_none q3 R.lv0) (ne_none q3 R.nc0) (S.keep x o q1 q2 q3)
  have rs1 : RS es l1 g := fun j a ha => (S.rs j a ha).keep fun o => let hm := List.mem_of_getElem? ha; k1 _ _ (R.wl a hm) (hlvl a hm) (hlnc a hm)
  have hqW := S.qD.notW S.as
  have qD1 : IntsAt l1 q qs := S.qD.keep fun o => k1 _ _ hqW S.qlv hqc
  have hF1 : Sub F l1 := fun x o q' => keep1 x o (fun hm => by rw [R.fw x hm] at q'; cases q') (fun a ha e => by rw [e, R.rf.fl a ha] at q'; cases q') (R.sub x o q')
  have hFq : F q = none := by
    cases q' : F q with
    | none => rfl
    | some o => have := R.sub _ _ q'; rw [S.q0] at this; cases this
  have hFF : Sub F (cutF es q l1) := cutF_of hFq R.rf.fl hF1
  obtain ⟨rn, hrD⟩ := R.rows
  obtain ⟨oc, hc1, hc2⟩ := nc1
  have hqDD : D ≠ q := fun e => by obtain ⟨_, _, q', _⟩ := S.qD; rw [← e, hD] at q'; cases q'
  have hDl : ∀ a ∈ es, D ≠ a.1.l := fun a ha e => by
    obtain ⟨j, hj⟩ := List.getElem?_of_mem ha
    obtain ⟨_, _, q', _⟩ := S.rs j a hj
    rw [← e, hD] at q'; cases q'
  have hqA := S.qD.neA S.as
  obtain ⟨nv, nn, hn1, hn2⟩ := now1
  have S2 : AS PP w (cutF es q l1) p _ seen' asg' := S1.congr (cutF_ne hqA R.al) fun c hc => cutF_ne (fun e => hqW (e ▸ hc)) fun a ha e => R.wl a ha (e ▸ hc)
  refine wpAny_execs_cons (rows_walk (s := { s with heap := h₁, toks := tk₁ }) (Ps := Ps) C r e hce z cutF_sub (R.rf.mono hFF fun a ha => cutF_l ha) rs1 (lo R.mr (by decide)) (hFF _ _ hrD) S.mq cutF_q qD1 S.qn (by have := R.len; omega) (fun a ha => (hlq a ha).symm) ⟨oc, (cutF_ne (Ne.symm hqc) fun a ha => (hlnc a ha).symm).trans hc1, hc2⟩
    ⟨nv, nn, (cutF_ne hqDD hDl).trans hn1, hn2⟩ R.ok S2 (lo R.mh (by decide)) hone P.gp (fun P hP k hk => List.mem_append_left _ (hsub P hP k hk)) hst (P.held.push hW h1 h2) (P.ok.push hW h1 h2).clean fun h₂ tk₂ m₂ l2 g' qs' z lo2 k2 rs2 qD2 q1 q2 gp2 st2 => wpAny_execs_nil ?_)
  have hA : G ++ (Lv ++ [one]) = G ++ Lv ++ [one] := (List.append_assoc ..).symm
  have hlen9 := R.len
  refine h _ _ _ _ _ seen' asg' g' qs' z ⟨S.mlo.trans (lo2.le fun x hx => .tail _ (.tail _ hx)), (lo2 _ (by decide)).trans S.mq, fun x o q1 q2 q3 => k2 x o q2 (ne_none q3 S.q0) (keep1 x o q1 q2 q3), S1.congr ?_ fun c hc => ?_, rs2, lv1.keep fun o => k2 _ _ (fun a ha => (hlvl a ha).symm) (Ne.symm S.qlv), qD2,
    ⟨_, oc, k2 _ _ (fun a ha => (hlnc a ha).symm) (Ne.symm hqc) hc1, hc2⟩, S.qn, S.q0, S.qlv⟩ ⟨hA ▸ P.ok.push hW h1 h2, hA ▸ P.held.push hW h1 h2, ?_, gp2⟩ (hA ▸ st2) (by omega) fun k hk => (q2 k hk).imp id fun ⟨a, ha, hk⟩ => R.wi a ha k hk
  · rw [k2 _ _ R.al hqA S1.inst, S1.inst]
  · obtain ⟨o, q'⟩ := S1.some hc
    rw [k2 _ _ (fun a ha e => R.wl a ha (e ▸ hc)) (fun e => hqW (e ▸ hc)) q', q']
  · rw [hA, absL_snoc]
    rw [if_neg fun hm => notin_abs h1 h2 (P.asg.mem_iff.mp hm)] at hpa
    exact hpa.trans ((P.asg.cons _).trans (List.perm_append_singleton _ _).symm)
end
end Mine

namespace Mine
section
variable {w : World} {A : Around} {E : Value → Shared → Prop} {s : Shared} {mg mb : Str → Option Value} {b : Heap} {L : Addr} {m m0 : Loc} {ld F : Ld} {env : Env} {sc : Scope} {h₀ : Heap} {es : List (EA × List Int)} {p : AsAddr} {nc lv rD gD q : Addr} {G Lv qs seen asg : List Int} {f : Int → Option Bool} {g : Nat → List Int}

/-- a slice of a list -/
theorem slice_end {value : Expr} {lo hi : Option Expr} {p2 : Pos} {vl vu : Value} {ilo ihi : Option Int} {l : Addr} {vs us : List Value} {n : Nat} {Q : Value → Shared → Prop} (z : Z b L m ld s.heap) (hl : ld l = some (listOf vs.toArray n)) (hsz : vs.length ≤ 1000) (pl : IsPart vl ilo) (pu : IsPart vu ihi) (hp : slicePick vs.toArray ilo ihi none = us.toArray)
    (h : ∀ D h', ld D = none → New b D → Z b L m (upd ld D (listOf us.toArray 0)) h' → Q (.ref D) { s with heap := h' })
    (hs : ∀ i, subscripted (.Slice lo hi none p2) false (.ref l) (.ref i) = operate [.ref i, .ref l] (getItem (.ref l) (.ref i)) := by intro _; with_unfolding_all rfl) (ht : ∀ r, letTemporaryGo value (.ref l) r = pure () := by intro _; with_unfolding_all rfl) :
    wpAny (model PP w) A (subscriptTail value (.Slice lo hi none p2) (.ref l) (.ref s.heap.objs.size)) Q E { s with heap := s.heap.push { cls := .type "slice", data := .fields #[vl, vu, .none] } } := by
  refine slice_listK (z.isList hl) pl pu ?_ (hs _) ht (by rw [List.size_toArray]; exact Nat.le_trans hsz (by decide))
  have z1 := z.push { cls := .type "slice", data := .fields #[vl, vu, .none] }
  have z2 := z1.push { cls := .type "list", data := .seq (slicePick vs.toArray ilo ihi none) }
  rw [Heap.size_push] at z2
  refine h _ _ z.none1 (Nat.le_succ_of_le z.bs.size) (z2.mono (fun a o q => ?_) fun a o q => ?_)
  · by_cases q1 : a = s.heap.objs.size + 1
    · subst q1; rw [upd_self] at q ⊢; rw [← q, hp]
    · rw [upd_ne q1] at q ⊢
      rw [upd_ne (ne_of_lt1 (z.lt q))]; exact q
  · rw [upd_ne (ne_of_lt2 (z.blt q))]; exact z.base _ _ q

set_option maxHeartbeats 2000000 in
/-- one = queue[0]; queue = queue[1:] -/
theorem pop_walk {one : Int} {rest : List Stmt} {Q : Flow → Shared → Prop} (e : EnvIs env (crS w) L) (z : Z b L m ld s.heap) (S : CS w b h₀ es p nc lv m0 m ld q f seen asg g Lv (one :: qs)) (hql : qs.length ≤ 900) (hq0 : ∀ x, ld x = none → h₀.get? x = none)
    (h : ∀ h' tk m' ld' q' t, Z b L m' ld' h' → CS w b h₀ es p nc lv m0 m' ld' q' f seen asg g Lv qs → m' "one" = some (.int one t) → wpAny (model PP w) A (execs rest env) Q (fun _ _ => False) { s with heap := h', toks := tk }) :
    wpAny (model PP w) A (execs ((whB w).getD 0 (.Pass default) :: (whB w).getD 1 (.Pass default) :: rest) env) Q (fun _ _ => False) s := by
  show wpAny _ _ (execs (.Assign [.Name "one" _] (.Subscript (.Name "queue" _) (.Constant (.int 0) _ _) _) _ :: .Assign [.Name "queue" _] (.Subscript (.Name "queue" _) (.Slice (some (.Constant (.int 1) _ _)) none none _) _) _ :: rest) env) _ _ _
  obtain ⟨qvs, qn, hqD, hqi⟩ := S.qD
  have hll := hqi.length
  rw [List.length_cons] at hll
  refine wpAny_execs_cons (wpAny_Assign_Name (Subscript_ (ev_loc e z S.mq (wpAny_Constant_int (it_int z hqD hqi (v := one) rfl (by decide) (by decide) fun t => st_loc e z fun h₁ z => ?_)))))
  refine wpAny_execs_cons (wpAny_Assign_Name (Subscript_ (ev_loc e z S.mq (wpAny_Slice (evalPart_some_step (wpAny_Constant_int (evalPart_none_step (evalPart_none_step ?_))))))))
  refine slice_end (s := { s with heap := h₁, toks := _ }) (us := qvs.drop 1) z hqD (by omega) (.int 1 _) .none (slicePick_from' _ _) fun D h₂ hD hDn z => st_loc e z fun h₃ z => ?_
  have lv1 := S.lvD
  obtain ⟨ov, oc, hc1, hc2⟩ := S.nc
  refine h _ _ _ _ D t z ⟨S.mlo.trans fun x hx => ?_, rfl, fun x o q1 q2 q3 => upd_old hD (S.keep x o q1 q2 q3), S.as.sub fun x o => upd_old hD, fun j a ha => (S.rs j a ha).sub fun x o => upd_old hD, lv1.sub fun x o => upd_old hD, ⟨_, _, upd_self, hqi.drop 1⟩,
    ⟨ov, oc, upd_old hD hc1, hc2⟩, hDn, hq0 D hD, ?_⟩ rfl
  · rw [if_neg fun q => hx (by rw [q]; exact .tail _ (.head _)), if_neg fun q => hx (by rw [q]; exact .head _)]
  · obtain ⟨_, _, q, _⟩ := lv1
    exact fun e => by rw [e, q] at hD; cases hD
end
end Mine

namespace Mine
section
variable {w : World} {A : Around} {E : Value → Shared → Prop} {s : Shared} {mg mb : Str → Option Value} {b : Heap} {L : Addr} {m m0 : Loc} {ld F : Ld} {env : Env} {sc : Scope} {h₀ : Heap} {es : List (EA × List Int)} {p : AsAddr} {nc lv rD gD q : Addr} {G Lv qs seen asg : List Int} {f : Int → Option Bool} {g : Nat → List Int}
theorem CS.old (S : CS w b h₀ es p nc lv m0 m ld q f seen asg g Lv qs) {x : Addr} (hx : ld x = none) : h₀.get? x = none := by
  cases h : h₀.get? x with
  | none => rfl
  | some o =>
    by_cases h1 : x ∈ p.W
    · obtain ⟨o', h2⟩ := S.as.some h1; rw [hx] at h2; cases h2
    · by_cases h2 : ∃ a ∈ es, x = a.1.l
      · obtain ⟨a, ha, rfl⟩ := h2
        obtain ⟨j, hj⟩ := List.getElem?_of_mem ha
        obtain ⟨_, _, h3, _⟩ := S.rs j a hj
        rw [hx] at h3; cases h3
      · rw [S.keep x o h1 (fun a ha e => h2 ⟨a, ha, e⟩) h] at hx; cases hx

/-- return [.., .., level] -/
theorem ret_level {c1 c2 : Bool} {k1 k2 : Nat} {p1 p2 p3 p4 p5 : Pos} {rest : List Stmt} {Q : Flow → Shared → Prop} (e : EnvIs env (crS w) L) (z : Z b L m ld s.heap) (hlv : m "level" = some (.ref lv))
    (h : ∀ R h' tk, ld R = none → New b R → Z b L m (upd ld R (listOf [Value.bool c1, .bool c2, .ref lv].toArray 0)) h' → Q (.ret (.ref R)) { s with heap := h', toks := tk }) :
    wpAny (model PP w) A (execs (.Return (some (.List [.Constant (.bool c1) k1 p1, .Constant (.bool c2) k2 p2, .Name "level" p3] p4)) p5 :: rest) env) Q (fun _ _ => False) s :=
  wpAny_execs_cons (wpAny_Return_some (ev_list (b := b) (L := L) (args_cons (wpAny_Constant_bool (args_cons (wpAny_Constant_bool (args_cons (ev_loc e z hlv (args_nil ⟨_, _, z, Nat.le_add_left 3 9997, fun R h' hR hRn z' => h R h' _ hR hRn z'⟩))))))))) 

/-- k in granted + level -/
theorem in_both {k : Int} {t : Tok} {gvs lvs : List Value} {gn ln : Nat} {pg pl pos : Pos} {Q : Value → Shared → Prop} {op : CmpOp} (e : EnvIs env (crS w) L) (z : Z b L m ld s.heap) (hgr : m "granted" = some (.ref gD)) (hlv : m "level" = some (.ref lv)) (hg : ld gD = some (listOf gvs.toArray gn)) (hl : ld lv = some (listOf lvs.toArray ln)) (hgi : IntsAre gvs G) (hli : IntsAre lvs Lv) (hn : G.length ≤ 100 ∧ Lv.length ≤ 100)
    (hop : op = .In ∨ op = .NotIn) (h : ∀ h', Z b L m ld h' → Q (.bool (if op = .In then decide (k ∈ G ++ Lv) else decide (k ∉ G ++ Lv))) { s with heap := h' }) :
    wpAny (model PP w) A (eval (.BinOp (.Name "granted" pg) .Add (.Name "level" pl) pos) env) (fun v s' => wpAny (model PP w) A (compareOp op (.int k t) v) Q E s') E s := by
  refine wpAny_BinOp (ev_loc e z hgr (ev_loc e z hlv (l_add z hg hl (by rw [hgi.length]; omega) (by rw [hli.length]; omega) fun D h₁ hD hDn z₁ => ?_)))
  rcases hop with rfl | rfl
  · exact in_ints z₁ upd_self (hgi.append hli) (h _ (z.drop z₁ hD))
  · exact notin_ints z₁ upd_self (hgi.append hli) (h _ (z.drop z₁ hD))

set_option maxHeartbeats 4000000 in
theorem while_walk {Ps : List Int → Prop} {Q : Flow → Shared → Prop}
    (C : Cx (KK w) mg mb b) (r : Room A 3) (e : EnvIs env (crS w) L) (hce : env.cells = [(("now" : Str), nc)]) (z : Z b L m ld s.heap) (R : CF b F h₀ es p nc lv rD gD G m0) (S : CS w b h₀ es p nc lv m0 m ld q f seen asg g Lv qs) (P : CP Ps G es g f asg Lv)
    (hsub : ∀ P, Ps P → ∀ k ∈ P, k ∈ G) (hst : Stars (G ++ Lv) qs es g) (hW : ∀ k ∈ qs, Wi k) (hql : qs.length ≤ 1 + 9 * Lv.length)
    (h : ∀ h' tk m' ld' q' f' seen' asg' g' Lv' qs' R c, ld' R = none → New b R → Z b L m' (upd ld' R (listOf [Value.bool true, .bool c, .ref lv].toArray 0)) h' → CS w b h₀ es p nc lv m0 m' ld' q' f' seen' asg' g' Lv' qs' → CP Ps G es g' f' asg' Lv' →
      (c = false → Stars (G ++ Lv') [] es g') → Q (.ret (.ref R)) { s with heap := h', toks := tk }) :
    wpAny (model PP w) A (execs ((crB w).drop 2) env) Q (fun _ _ => False) s := by
  show wpAny _ _ (execs (.While (.Compare (.Name "queue" _) [.NotEq] [.List [] _] _) (whB w) [] _ :: .Return _ _ :: []) env) _ _ _
  have lo : ∀ {x : Str} {v : Option Value} {m' : Loc}, Lo carryN m0 m' → m0 x = v → x ∉ carryN → m' x = v := fun h1 h2 h3 => (h1 _ h3).trans h2
  refine wpAny_execs_cons (ex_while (fun n m' l' => ∃ q' f' seen' asg' g' Lv' qs', CS w b h₀ es p nc lv m0 m' l' q' f' seen' asg' g' Lv' qs' ∧ CP Ps G es g' f' asg' Lv' ∧ Stars (G ++ Lv') qs' es g' ∧ (∀ k ∈ qs', Wi k) ∧ qs'.length ≤ 1 + 9 * Lv'.length ∧ n = qs'.length + 21 * (19 - (G ++ Lv').length)) _ z
    ⟨q, f, seen, asg, g, Lv, qs, S, P, hst, hW, hql, rfl⟩ ?_)
  clear S P hst hW hql z
  rintro n m₁ l₁ h₁ tk₁ ⟨q', f', seen', asg', g', Lv', qs', S, P, hst, hW, hql, rfl⟩ z
  obtain ⟨qvs, qn, hqD, hqi⟩ := id S.qD
  have hlen := P.ok.len
  rw [List.length_append] at hlen
  refine wpAny_isTrue_Compare1 (ev_loc e z S.mq (ev_nil z fun D h₂ hD hDn z₂ => ?_))
  refine ne_intsK (z₂.isList (upd_old hD hqD)) hqi (z₂.isList upd_self) .nil r.unit64 (wpAny_truthy_bool ?_)
  have z := z.drop z₂ hD
  clear z₂
  match qs', hqi, S, hst, hW, hql with
  | [], _, S, hst, hW, hql =>
    rw [decide_eq_true (rfl : ([] : List Int) = []), if_neg (by decide)]
    exact ret_level e z (lo S.mlo R.ml (by decide)) fun R' h' tk hR hRn z' => h _ _ _ _ _ _ _ _ _ _ _ _ false hR hRn z' S P fun _ => hst
  | one :: qs, _, S, hst, hW, hql =>
    rw [show (!decide (one :: qs = ([] : List Int))) = true from rfl, if_pos rfl]
    rw [List.length_cons] at hql
    show wpAny _ _ (execs ((whB w).getD 0 (.Pass default) :: (whB w).getD 1 (.Pass default) :: .If (.Compare (.UnaryOp .USub (.Name "one" _) _) [.In] [_] _) [.Return _ _] [] _ :: .If (.Compare (.Name "one" _) [.NotIn] [_] _) (newB w) [] _ :: []) env) _ _ _
    refine pop_walk (s := { s with heap := h₂, toks := tk₁ }) e z S (by omega) (fun x => S.old) fun h₃ tk₃ m₃ l₃ q₃ t z S' hone => ?_
    obtain ⟨gvs, gn, hg1, hg2⟩ := R.gr
    obtain ⟨lvs, ln, hl1, hl2⟩ := id S'.lvD
    have hg1' := R.subL S' _ _ hg1
    have hgr := lo S'.mlo R.mg (by decide)
    have hlv := lo S'.mlo R.ml (by decide)
    refine wpAny_execs_cons (wpAny_If (wpAny_isTrue_Compare1 (ev_neg e z hone fun u tk => in_both (s := { s with heap := h₃, toks := tk }) e z hgr hlv hg1' hl1 hg2 hl2 (by omega) (.inl rfl) fun h₄ z => wpAny_truthy_bool ?_)))
    rw [if_pos rfl]
    by_cases hc : -one ∈ G ++ Lv'
    · rw [if_pos (decide_eq_true hc)]
      exact ret_level e z hlv fun R' h' tk hR hRn z' => h _ _ _ _ _ _ _ _ _ _ _ _ true hR hRn z' S' P fun q => (nomatch q)
    rw [if_neg (by rw [decide_eq_false hc]; decide)]
    refine wpAny_execs_nil (wpAny_execs_cons (wpAny_If (wpAny_isTrue_Compare1 (ev_loc e z hone (in_both (s := { s with heap := h₄, toks := _ }) e z hgr hlv hg1' hl1 hg2 hl2 (by omega) (.inr rfl) fun h₅ z => wpAny_truthy_bool ?_)))))
    rw [if_neg (show ¬ CmpOp.NotIn = CmpOp.In from fun q => nomatch q)]
    by_cases hc2 : one ∈ G ++ Lv'
    · rw [if_neg (by simp [hc2])]
      refine wpAny_execs_nil (wpAny_execs_nil ⟨_, _, _, _, _, ?_, rfl, z, _, _, _, _, _, _, _, S', P, fun j a ha => (hst j a ha).skip hc2, fun k hk => hW k (.tail _ hk), by omega, rfl⟩)
      rw [List.length_cons]; omega
    · rw [if_pos (decide_eq_true hc2)]
      have hW1 := hW one (.head _)
      have hlen' := (P.ok.push hW1 hc2 hc).len
      rw [List.length_append, List.length_append] at hlen'
      refine new_walk (s := { s with heap := h₅, toks := _ }) C r e hce z R S' P hone hW1 hc2 hc hsub hst (by omega) fun h₆ tk₆ m₆ l₆ f₆ seen₆ asg₆ g₆ qs₆ z S₆ P₆ st₆ ql₆ W₆ => ?_
      refine wpAny_execs_nil ⟨_, _, _, _, _, ?_, rfl, z, _, _, _, _, _, _, _, S₆, P₆, st₆, fun k hk => (W₆ k hk).elim (fun hk => hW k (.tail _ hk)) id, ?_, rfl⟩
      · rw [List.length_cons, List.length_append, List.length_append, List.length_append]
        have : ([one] : List Int).length = 1 := rfl
        omega
      · rw [List.length_append]
        have : ([one] : List Int).length = 1 := rfl
        omega
end
end Mine

namespace Mine
section
variable {w : World} {A : Around} {E : Value → Shared → Prop} {s : Shared} {mg mb : Str → Option Value} {b : Heap} {F : Ld} {es : List (EA × List Int)} {p : AsAddr} {rD gD : Addr} {G seen asg : List Int} {f : Int → Option Bool} {g : Nat → List Int}
abbrev back (c : Bool) (lv : Addr) : Obj := listOf [Value.bool true, .bool c, .ref lv].toArray 0

set_option maxHeartbeats 2000000 in
/-- _law_carry -/
theorem carry_spec {Ps : List Int → Prop} {wish : Int} {t : Tok} {rn : Nat} {Q : Value → Shared → Prop}
    (C : Cx (KK w) mg mb b) (hB : Bs b s.heap) (r : Room A 4) (rf : RF b F es) (fw : ∀ c ∈ p.W, F c = none) (sub : Sub F s.heap.get?) (rows : F rD = some (listOf (es.map fun a => Value.ref a.1.e).toArray rn)) (gr : IntsAt F gD G) (ok : p.Ok b)
    (S : AS PP w s.heap.get? p f seen asg) (rs : RS es s.heap.get? g) (P : CP Ps G es g f asg []) (hsub : ∀ P, Ps P → ∀ k ∈ P, k ∈ G) (hst : ∀ (j : Nat) a, es[j]? = some a → Stab G (g j)) (hW : Wi wish) (len : es.length ≤ 9) (wi : ∀ a ∈ es, Wish a.2)
    (h : ∀ h' tk ld' R lv Lv c f' seen' asg' g', Led ld' h' → (∀ x o, x ∉ p.W → (∀ a ∈ es, x ≠ a.1.l) → s.heap.get? x = some o → ld' x = some o) → ld' R = some (back c lv) → s.heap.get? R = none → New b R → s.heap.get? lv = none → New b lv → R ≠ lv → IntsAt ld' lv Lv →
      AS PP w ld' p f' seen' asg' → RS es ld' g' → CP Ps G es g' f' asg' Lv → (c = false → ∀ (j : Nat) a, es[j]? = some a → Stab (G ++ Lv) (g' j)) → Q (.ref R) { s with heap := h', toks := tk }) :
    wpAny (model PP w) A (call (.ref 277) [.ref p.a, .ref rD, .ref gD, .int wish t]) Q E s := by
  refine enterX (n := 3) C hB r rfl rfl rfl (BindsTo.of_eq rfl) rfl rfl rfl rfl rfl rfl rfl ?_
  intro A' env L ld h₁ tk r' e hcs hL hL0 z hk hcell _
  dsimp only at e hcs
  have hcs' : env.cells = [(("now" : Str), L + 1)] := hcs
  obtain ⟨hcv, hc0, hcn⟩ := hcell "now" (L + 1) (by rw [hcs']; rfl)
  obtain ⟨oc, hco, hco'⟩ := hcv
  have old : ∀ x, ld x = none → s.heap.get? x = none := fun x q => by
    cases q' : s.heap.get? x with
    | none => rfl
    | some o => rw [hk _ _ q'] at q; cases q
  have get : ∀ a ∈ es, ∃ j : Nat, es[j]? = some a := fun a ha => List.getElem?_of_mem ha
  show wpAny _ _ (execs (.Assign [.Name "level" _] (.List [] _) _ :: .Assign [.Name "queue" _] (.List [.Name "wish" _] _) _ :: (crB w).drop 2) env) _ _ _
  refine wpAny_execs_cons (wpAny_Assign_Name (ev_nil z fun lv h₂ hlv hlvn z => st_loc e z fun h₃ z => ?_))
  obtain ⟨m0, ⟨g1, g2, g3, g4, g5⟩, z⟩ : ∃ m0 : Loc, (m0 "held" = some (.ref p.a) ∧ m0 "rows" = some (.ref rD) ∧ m0 "granted" = some (.ref gD) ∧ m0 "wish" = some (.int wish t) ∧ m0 "level" = some (.ref lv)) ∧ Z b L m0 (upd ld lv (lstO [])) h₃ := ⟨_, ⟨rfl, rfl, rfl, rfl, rfl⟩, z⟩
  refine wpAny_execs_cons (wpAny_Assign_Name (ev_list (b := b) (L := L) (args_cons (ev_loc e z g4 (args_nil ⟨_, _, z, Nat.le_add_left 1 9999, fun q h₄ hq hqn z => st_loc e z fun h₅ z => ?_⟩)))))
  have up : ∀ x o, ld x = some o → upd (upd ld lv (lstO [])) q (listOf [Value.int wish t].toArray 0) x = some o := fun x o q' => upd_old hq (upd_old hlv q')
  have hqlv : q ≠ lv := fun q' => by rw [q', upd_self] at hq; cases hq
  have hq' : ld q = none := by rwa [upd_ne hqlv] at hq
  refine while_walk (Ps := Ps) (F := F) (h₀ := s.heap) (m0 := m0) (rD := rD) (gD := gD) (G := G) (Lv := []) (qs := [wish]) (g := g) C r' e hcs' z
    ⟨rf, fw, sub, ⟨rn, rows⟩, gr, ok, hlvn, old _ hlv, hcn, hc0, (fun q => by rw [q, hlv] at hco; cases hco), fun a ha => ?_, fun c hc => S.some hc, ⟨_, S.inst⟩, fun a ha => ?_, fun a ha => ?_, len, wi, g1, g2, g3, g5⟩
    ⟨fun x hx => if_neg (show ¬ x = ("queue" : Str) from fun q => hx (by rw [q]; exact .tail _ (.head _))), rfl, fun x o _ _ q => up _ _ (hk _ _ q), S.sub fun x o q => up _ _ (hk _ _ q), fun j a ha => (rs j a ha).sub fun x o q => up _ _ (hk _ _ q), ⟨[], 0, upd_old hq upd_self, .nil⟩, ⟨_, _, upd_self, .cons _ _ .nil⟩, ⟨_, oc, up _ _ hco, hco'⟩, hqn, old _ hq', hqlv⟩
    P hsub (fun j a ha => by rw [List.append_nil]; exact (hst j a ha).star) (fun k hk => by rw [List.mem_singleton.mp hk]; exact hW) (Nat.le_refl _) fun h₆ tk₆ m₆ l₆ q₆ f₆ seen₆ asg₆ g₆ Lv₆ qs₆ R c hR hRn z S₆ P₆ st₆ => ?_
  · obtain ⟨j, hj⟩ := get a ha
    obtain ⟨_, _, q, _⟩ := rs j a hj
    exact ⟨_, q⟩
  · obtain ⟨j, hj⟩ := get a ha; exact (rs j a hj).notW S
  · obtain ⟨j, hj⟩ := get a ha; exact (rs j a hj).neA S
  · have up6 : Sub l₆ (upd l₆ R (back c lv)) := fun x o q => upd_old hR q
    exact h h₆ tk₆ _ R lv Lv₆ c f₆ seen₆ asg₆ g₆ z.led (fun x o q1 q2 q3 => up6 _ _ (S₆.keep x o q1 q2 q3)) upd_self (S₆.old hR) hRn (old _ hlv) hlvn (fun q => by obtain ⟨_, _, q', _⟩ := S₆.lvD; rw [← q, hR] at q'; cases q') (S₆.lvD.sub up6) (S₆.as.sub up6) (fun j a ha => (S₆.rs j a ha).sub up6) P₆
      fun hc j a ha => (st₆ hc j a ha).end
end
end Mine

namespace Mine
section
variable {prog : Program} {w : World} {A : Around} {E : Value → Shared → Prop} {s : Shared} {b : Heap} {L : Addr} {m : Loc} {ld : Ld} {env : Env} {sc : Scope} {R : Result → Shared → Prop}
  {elt i0 i1 t0 t1 : Expr} {scope : Scope} {pos : Pos} {it acc : Value}

theorem turn2a : compTurn (.ListComp elt [⟨t0, i0, [], 0⟩, ⟨t1, i1, [], 0⟩] scope pos) 0 it acc env = (do
      standAt i0.pos
      match ← pyNext it with
      | none => pure (.done .next)
      | some v =>
        letOwnedTupleGo t0 it v
        assign t0 env v
        let x ← eval i1 env
        standAt i1.pos
        let x ← foldedSetIterable i1 env x
        let _ ← runOwn (.compStart (.ListComp elt [⟨t0, i0, [], 0⟩, ⟨t1, i1, [], 0⟩] scope pos) 1 (← holding [x] (pyIter x)) acc env) env
        again (.compLoop (.ListComp elt [⟨t0, i0, [], 0⟩, ⟨t1, i1, [], 0⟩] scope pos) 0 it acc env)) := by rfl
theorem turn2b : compTurn (.ListComp elt [⟨t0, i0, [], 0⟩, ⟨t1, i1, [], 0⟩] scope pos) 1 it acc env = (standAt i1.pos >>= fun _ => pyNext it >>= fun r => match r with
      | none => pure (.done .next)
      | some v => letOwnedTupleGo t1 it v >>= fun _ => assign t1 env v >>= fun _ =>
        (eval elt env >>= fun x => call (.builtin "list.append") [acc, x] >>= fun _ => pure ()) >>= fun _ =>
          again (.compLoop (.ListComp elt [⟨t0, i0, [], 0⟩, ⟨t1, i1, [], 0⟩] scope pos) 1 it acc env)) := by rfl

theorem loop2a (I : Nat → Shared → Prop)
    (turn : ∀ n s, I n s → wpAny (model prog w) A (pyNext it) (fun r s₁ => match r with
      | none => R (.ok .next) s₁
      | some v => wpAny (model prog w) A (assign t0 env v) (fun _ s₂ => wpAny (model prog w) A (eval i1 env) (fun x s₃ => wpAny (model prog w) A (pyIter x) (fun it1 s₄ =>
          codeAny (model prog w) A (.compStart (.ListComp elt [⟨t0, i0, [], 0⟩, ⟨t1, i1, [], 0⟩] scope pos) 1 it1 acc env) (fun r s₅ => match r with | .ok _ => ∃ m, m < n ∧ I m s₅ | .error _ => False) s₄)
          (fun _ _ => False) s₃) (fun _ _ => False) s₂) (fun _ _ => False) s₁) (fun _ _ => False) s)
    (n : Nat) (h : I n s) (ht : ∀ v, letOwnedTupleGo t0 it v = pure ()) (hf : ∀ x, foldedSetIterable i1 env x = pure x) :
    codeAny (model prog w) A (.compLoop (.ListComp elt [⟨t0, i0, [], 0⟩, ⟨t1, i1, [], 0⟩] scope pos) 0 it acc env) R s := by
  refine codeAny_loop rfl I (fun n s hI => ?_) n h
  show wpAny _ A ((compTurn (.ListComp elt [⟨t0, i0, [], 0⟩, ⟨t1, i1, [], 0⟩] scope pos) 0 it acc env).onRaise (fun x => do noteFrame x env; theTreesLotGoes x)) _ _ s
  refine wpAny_noted ?_
  rw [turn2a]
  refine wpAny_bind (wpAny_standAt (wpAny_bind (wpAny_mono (turn n s hI) (fun r s₁ h₁ => ?_) fun _ _ h' => h'.elim)))
  cases r with
  | none => exact wpAny_pure h₁
  | some v =>
    refine wpAny_bind (wpAny_of_eq (ht v) ?_)
    refine wpAny_bind (wpAny_mono h₁ (fun _ s₂ h₂ => ?_) fun _ _ x => x.elim)
    refine wpAny_bind (wpAny_mono h₂ (fun x s₃ h₃ => wpAny_bind (wpAny_standAt ?_)) fun _ _ x => x.elim)
    refine wpAny_bind (wpAny_of_eq (hf x) ?_)
    refine wpAny_bind (wpAny_holding (wpAny_mono h₃ (fun it1 s₄ h₄ => ?_) fun _ _ x => x.elim))
    refine wpAny_bind (wpAny_runOwn (codeAny_mono h₄ fun r s₅ h₅ => ?_))
    cases r with
    | error _ => exact h₅.elim
    | ok _ => exact wpAny_pure ⟨rfl, h₅⟩
theorem loop2b (I : Nat → Shared → Prop)
    (turn : ∀ n s, I n s → wpAny (model prog w) A (pyNext it) (fun r s₁ => match r with
      | none => R (.ok .next) s₁
      | some v => wpAny (model prog w) A (assign t1 env v) (fun _ s₂ => wpAny (model prog w) A (eval elt env) (fun x s₃ =>
          wpAny (model prog w) A (call (.builtin "list.append") [acc, x]) (fun _ s₄ => ∃ m, m < n ∧ I m s₄) (fun _ _ => False) s₃) (fun _ _ => False) s₂) (fun _ _ => False) s₁) (fun _ _ => False) s)
    (n : Nat) (h : I n s) (ht : ∀ v, letOwnedTupleGo t1 it v = pure ()) :
    codeAny (model prog w) A (.compLoop (.ListComp elt [⟨t0, i0, [], 0⟩, ⟨t1, i1, [], 0⟩] scope pos) 1 it acc env) R s := by
  refine codeAny_loop rfl I (fun n s hI => ?_) n h
  show wpAny _ A ((compTurn (.ListComp elt [⟨t0, i0, [], 0⟩, ⟨t1, i1, [], 0⟩] scope pos) 1 it acc env).onRaise (fun x => do noteFrame x env; theTreesLotGoes x)) _ _ s
  refine wpAny_noted ?_
  rw [turn2b]
  refine wpAny_bind (wpAny_standAt (wpAny_bind (wpAny_mono (turn n s hI) (fun r s₁ h₁ => ?_) fun _ _ h' => h'.elim)))
  cases r with
  | none => exact wpAny_pure h₁
  | some v =>
    refine wpAny_bind (wpAny_of_eq (ht v) ?_)
    exact wpAny_bind (wpAny_mono h₁ (fun _ s₂ h₂ => wpAny_bind (wpAny_bind (wpAny_mono h₂ (fun x s₃ h₃ => wpAny_bind (wpAny_mono h₃
      (fun _ s₄ h₄ => wpAny_pure (wpAny_pure ⟨rfl, h₄⟩)) fun _ _ h' => h'.elim)) fun _ _ h' => h'.elim))) fun _ _ h' => h'.elim)
theorem start2 {k : Nat} (hk : k = 0 ∨ k = 1)
    (h0 : codeAny (model prog w) A (.compLoop (.ListComp elt [⟨t0, i0, [], 0⟩, ⟨t1, i1, [], 0⟩] scope pos) k it acc env) R s)
    (h : wpAny (model prog w) A (pyIter it) (fun it' s' => codeAny (model prog w) A (.compLoop (.ListComp elt [⟨t0, i0, [], 0⟩, ⟨t1, i1, [], 0⟩] scope pos) k it' acc env) R s') (fun _ _ => False) s) :
    codeAny (model prog w) A (.compStart (.ListComp elt [⟨t0, i0, [], 0⟩, ⟨t1, i1, [], 0⟩] scope pos) k it acc env) R s := by
  refine codeAny_of_tree ?_
  show wpAny _ _ ((compStart (.ListComp elt [⟨t0, i0, [], 0⟩, ⟨t1, i1, [], 0⟩] scope pos) k it acc env).onRaise (fun x => do noteFrame x env; standAt theWindowsPlace)) _ _ s
  refine wpAny_notedAt ?_
  rcases hk with rfl | rfl
  all_goals
    unfold compStart
    show wpAny _ _ (ask >>= _) _ _ s
    refine wpAny_bind (wpAny_askSetting (wpAny_ite ?_))
    split
    · first
        | exact wpAny_bind (wpAny_pure (wpAny_pure (And.intro rfl h0)))
        | exact wpAny_pure (And.intro rfl h0)
    · refine wpAny_bind (wpAny_rule ?_)
      first
        | (show wpAny _ _ (standAt i0.pos >>= _) _ _ s; exact wpAny_bind (wpAny_standAt (wpAny_bind (wpAny_mono h (fun it' s' h' => wpAny_pure (And.intro rfl h')) fun _ _ x => x.elim))))
        | (show wpAny _ _ (standAt i1.pos >>= _) _ _ s; exact wpAny_bind (wpAny_standAt (wpAny_bind (wpAny_mono h (fun it' s' h' => wpAny_pure (And.intro rfl h')) fun _ _ x => x.elim))))

/-- for x in ints: into D -/
theorem inner_loop {x0 x1 : Str} {p0 p1 pe : Pos} {ax D : Addr} {vs ys : List Value} {ep mm : Nat} (r : Room A mm) (e : EnvIs env sc L) (z : Z b L m ld s.heap) (hax : ld ax = some (listOf vs.toArray ep)) (hD : ld D = some (lstO ys)) (hDn : New b D) (hne : ax ≠ D) (hsz : ys.length + vs.length ≤ 10000)
    (done : ∀ h' tk m' ld', Z b L m' ld' h' → (∀ a o, a ≠ D → ld a = some o → ld' a = some o) → ld' D = some (lstO (ys ++ vs)) → R (.ok .next) { s with heap := h', toks := tk })
    (hx : sc.names.lookup x1 = some .local) (hd : (x1 == ("__debug__" : Str)) = false) :
    wpAny (model prog w) A (pyIter (.ref ax)) (fun it1 s₄ => codeAny (model prog w) A (.compStart (.ListComp (.Name x1 pe) [⟨.Name x0 p0, i0, [], 0⟩, ⟨.Name x1 p1, i1, [], 0⟩] scope pos) 1 it1 (.ref D) env) R s₄) (fun _ _ => False) s := by
  have hl : Heap.IsList s.heap ax vs.toArray := z.isList hax
  refine wpAny_pyIter_list hl ?_
  have hIax : ax ≠ s.heap.objs.size := ne_of_lt1 (Heap.lt_size (z.led _ _ hax))
  have hID : D ≠ s.heap.objs.size := ne_of_lt1 (Heap.lt_size (z.led _ _ hD))
  have hI0 : ld s.heap.objs.size = none := z.size_none
  have hIb : b.get? s.heap.objs.size = none := New.none (b := b) (z.bs.size)
  have hLI : L ∉ [s.heap.objs.size] := fun q => absurd z.ns.lt (by rw [List.mem_singleton.mp q]; exact Nat.lt_irrefl _)
  have z₂ := z.push { cls := .type "list_iterator", data := .fields #[.ref ax, .int 0 0] }
  have W := Walks.list (prog := prog) (w := w) r.handled s.heap.objs.size ax hIax vs.toArray
  have hst0 := z₂.led s.heap.objs.size _ upd_self
  generalize hI : s.heap.objs.size = I at *
  have lp : codeAny (model prog w) A (.compLoop (.ListComp (.Name x1 pe) [⟨.Name x0 p0, i0, [], 0⟩, ⟨.Name x1 p1, i1, [], 0⟩] scope pos) 1 (.ref I) (.ref D) env) R { s with heap := s.heap.push { cls := .type "list_iterator", data := .fields #[.ref ax, .int 0 0] } } := by
    refine loop2b (fun k s' => ∃ h' tk i m' lq, s' = { s with heap := h', toks := tk } ∧ i ≤ vs.length ∧ k = vs.length + 1 - i ∧ (h'.IsListIter I ax i ∧ h'.IsList ax vs.toArray) ∧ Z b L m' lq h' ∧ (∀ a o, a ≠ D → ld a = some o → lq a = some o) ∧ lq D = some (lstO (ys ++ vs.take i)) ∧ (lq I).isSome = true) ?_ (vs.length + 1)
      ⟨_, _, 0, _, _, rfl, Nat.zero_le _, rfl, ⟨⟨_, hst0, rfl, rfl⟩, z₂.isL ((upd_ne hIax).trans hax)⟩, z₂, fun a o _ q => upd_old hI0 q, by rw [List.take_zero, List.append_nil]; exact (upd_ne hID).trans hD, by rw [upd_self]; rfl⟩ (by intro _; rfl)
    rintro k s' ⟨h', tk, i, m', lq, rfl, hi, rfl, hst', z', hk, hqD, hqI⟩
    by_cases hlt : i < vs.length
    · refine W.item i _ _ _ (by simpa using hlt) hst' fun v h₂ tk₂ hPv hst₂ hk₂ => ?_
      have hv : vs[i]? = some v := by simpa using hPv
      have z₅ := z'.sees (h₁ := h₂) hLI (fun a ha => by rw [List.mem_singleton.mp ha]; exact hIb) (fun a o q => hk₂ a o q)
      have sne : ∀ a, a ≠ I → sees [I] h₂ lq a = lq a := fun a ha => by unfold sees; rw [if_neg fun q => ha (List.mem_singleton.mp q)]
      refine wpAny_assign_Name (st_loc e z₅ (fun h₃ z₆ => ?_) hx)
      refine ev_loc e z₆ (if_pos rfl) ?_ hx hd
      have hlD : sees [I] h₂ lq D = some (lstO (ys ++ vs.take i)) := (sne _ hID).trans hqD
      refine append_at (hsz := by show (ys ++ vs.take i).toArray.size ≤ sizeLine; rw [List.size_toArray, List.length_append, List.length_take, PySem.sizeLine_eq]; omega) (z₆.led _ _ hlD) fun h₆ hs₆ hD₆ => ?_
      have z₈ := z₆.sameBut hlD (New.none hDn) hs₆ hD₆
      have hne' : ∀ a o, ld a = some o → a ≠ I := fun a o q q' => by rw [q', hI0] at q; cases q
      refine ⟨vs.length + 1 - (i + 1), by omega, h₆, _, i + 1, _, _, rfl, hlt, rfl, ⟨?_, z₈.isL ((upd_ne hne).trans ((sne _ hIax).trans (hk _ _ hne hax)))⟩, z₈, fun a o q1 q2 => (upd_ne q1).trans ((sne _ (hne' _ _ q2)).trans (hk a o q1 q2)), ?_, ?_⟩
      · obtain ⟨o, q, rr⟩ := hst₂.1
        have hq6 : sees [I] h₂ lq I = some o := by unfold sees; rw [if_pos (List.mem_singleton.mpr rfl)]; exact q
        exact ⟨o, z₈.led _ _ ((upd_ne (Ne.symm hID)).trans hq6), rr⟩
      · rw [upd_self, List.take_add_one, hv, ← List.append_assoc]
        exact congrArg some (LCg.lst_snoc _ v)
      · rw [upd_ne (Ne.symm hID)]
        unfold sees; rw [if_pos (List.mem_singleton.mpr rfl)]
        obtain ⟨o, q, _⟩ := hst₂.1
        rw [q]; rfl
    · obtain rfl : i = vs.length := Nat.le_antisymm hi (Nat.not_lt.mp hlt)
      refine W.done { s with heap := h', toks := tk } _ _ hst' fun h₂ tk₂ hk₂ => ?_
      have z₅ := z'.sees (h₁ := h₂) hLI (fun a ha => by rw [List.mem_singleton.mp ha]; exact hIb) (fun a o q => hk₂ a o q)
      have sne : ∀ a, a ≠ I → sees [I] h₂ lq a = lq a := fun a ha => by unfold sees; rw [if_neg fun q => ha (List.mem_singleton.mp q)]
      rw [List.take_length] at hqD
      exact done h₂ tk₂ _ _ z₅ (fun a o q1 q2 => (sne _ fun q' => by rw [q', hI0] at q2; cases q2).trans (hk a o q1 q2)) ((sne _ hID).trans hqD)
  exact start2 (.inr rfl) lp (W.self 0 _ _ _ ⟨⟨_, hst0, rfl, rfl⟩, z₂.isL ((upd_ne hIax).trans hax)⟩ lp)
end
end Mine

namespace Mine
/-- lists of ints at addresses -/
def Rows2 (ld : Ld) (ls : List Addr) (nss : List (List Int)) : Prop := ls.length = nss.length ∧ ∀ (i : Nat) l ns, ls[i]? = some l → nss[i]? = some ns → IntsAt ld l ns
theorem Rows2.sub {ld ld' : Ld} {ls : List Addr} {nss : List (List Int)} (h : Rows2 ld ls nss) (k : Sub ld ld') : Rows2 ld' ls nss := ⟨h.1, fun i l ns a c => (h.2 i l ns a c).sub k⟩
section
variable {prog : Program} {w : World} {A : Around} {E : Value → Shared → Prop} {s : Shared} {b : Heap} {L : Addr} {m : Loc} {ld : Ld} {env : Env} {sc : Scope}

set_option maxHeartbeats 2000000 in
/-- y = [x1 for x0 in levels for x1 in x0] -/
theorem as_flat {x0 x1 y it : Str} {p0 p1 p2 p3 pe py pos spos : Pos} {scope : Scope} {LD : Addr} {ln mm : Nat} {ls : List Addr} {nss : List (List Int)} {Q : Flow → Shared → Prop} (r : Room A mm) (e : EnvIs env sc L) {cells : List (Str × Addr)} (hcs : env.cells = cells)
    (z : Z b L m ld s.heap) (hit : m it = some (.ref LD)) (hLD : ld LD = some (listOf (ls.map Value.ref).toArray ln)) (hR : Rows2 ld ls nss) (hlen : nss.flatten.length ≤ 1000)
    (h : ∀ h' tk D lq, Z b L (fun n => if n = y then some (.ref D) else m n) lq h' → ld D = none → New b D → Sub ld lq → IntsAt lq D nss.flatten → Q .next { s with heap := h', toks := tk })
    (hclos : closL cells scope.names [] = some [] := by rfl) (hil : sc.names.lookup it = some .local := by rfl) (hid : (it == ("__debug__" : Str)) = false := by decide)
    (hx0 : scope.names.lookup x0 = some .local := by rfl) (hx1 : scope.names.lookup x1 = some .local := by rfl) (hd0 : (x0 == ("__debug__" : Str)) = false := by decide) (hd1 : (x1 == ("__debug__" : Str)) = false := by decide)
    (hkind : scope.kind = .function := by rfl) (hcell : (scope.names.all fun x => decide (x.2 ≠ .cell)) = true := by rfl)
    (hy : sc.names.lookup y = some .local := by rfl) (hl : (py.line == pos.line) = true := by rfl) (hn : (!(scope.names.any fun x => x.1 == y && (x.2 == .local || x.2 == .cell))) = true := by rfl)
    (hs : ∀ x, foldedSetIterable (.Name it p2) env x = pure x := by intro _; rfl) (hf : ∀ env' x, foldedSetIterable (.Name x0 p3) env' x = pure x := by intro _ _; rfl)
    (hnames : (scope.names.all fun y => decide (y.2 = .local → scope.names.lookup y.1 = some .local)) = true := by rfl) :
    wpAny (model prog w) A (exec (.Assign [.Name y py] (.ListComp (.Name x1 pe) [⟨.Name x0 p0, .Name it p2, [], 0⟩, ⟨.Name x1 p1, .Name x0 p3, [], 0⟩] scope pos) spos) env) Q (fun _ _ => False) s := by
  rw [exec_Assign_Name_used _ _ _ _ (swaps_true e hy hl hn)]
  refine wpAny_bind (wpAny_standAt (wpAny_bind ?_))
  show wpAny _ A (do let _ ← comprehension (.ListComp (.Name x1 pe) [⟨.Name x0 p0, .Name it p2, [], 0⟩, ⟨.Name x1 p1, .Name x0 p3, [], 0⟩] scope pos) scope env _ (newList []) false (eval (.Name it p2) env) (some (assign (.Name y py) env))) _ _ s
  refine wpAny_bind (wpAny_mono (wpAny_comprehension_free (Q := fun _ s' => Q .next s') (use := some (assign (.Name y py) env)) rfl hs (closureFor_of hcs hclos) hkind (fun y hy => of_decide_eq_true (List.all_eq_true.mp hnames y hy)) ?_) (fun _ s' hq => wpAny_pure (wpAny_pure hq)) fun _ _ e => e)
  refine ev_loc e z hit ?_ hil hid
  refine wpAny_pyIter_list (z.isList hLD) ?_
  have hne : LD ≠ s.heap.objs.size := ne_of_lt1 (Heap.lt_size (z.led _ _ hLD))
  have z₂ := z.push { cls := .type "list_iterator", data := .fields #[.ref LD, .int 0 0] }
  have hI0 : ld s.heap.objs.size = none := z.size_none
  have hIb : b.get? s.heap.objs.size = none := New.none (b := b) (z.bs.size)
  have hsz : s.heap.objs.size < (s.heap.push { cls := .type "list_iterator", data := .fields #[.ref LD, .int 0 0] }).objs.size := by rw [Heap.size_push]; exact Nat.lt_succ_self _
  have W := Walks.list (prog := prog) (w := w) r.handled s.heap.objs.size LD hne (ls.map Value.ref).toArray
  have hLI : L ≠ s.heap.objs.size := ne_of_lt1 z.ns.lt
  have hLn : ld L = none := z.fr
  generalize s.heap.push { cls := .type "list_iterator", data := .fields #[.ref LD, .int 0 0] } = H1 at z₂ hsz ⊢
  generalize hI : s.heap.objs.size = I at *
  refine wpAny_newObj_type (wpAny_newFunctionEnv (fun x hx => of_decide_eq_true (List.all_eq_true.mp hcell x hx)) (by intro y hy; simp at hy) (fun h₁ hns₁ hsb₁ => ?_) hkind)
  have hD1 := z₂.size_none
  have hDn := z₂.bs.size
  have z₃ := z₂.push (lstO [])
  dsimp only at hns₁ hsb₁ ⊢
  change h₁.Ns (H1.push (lstO [])).objs.size _ at hns₁
  change Heap.SameBut (H1.push (lstO [])).objs.size ((H1.push (lstO [])).push _) h₁ at hsb₁
  obtain ⟨oL, hoL, z₄⟩ := z₃.into hns₁ hsb₁
  have hC3 := z₃.size_none
  have hLC : L ≠ (H1.push (lstO [])).objs.size := ne_of_lt1 z₃.ns.lt
  show codeAny _ A (.compStart _ 0 (.ref I) (.ref H1.objs.size) (compEnvC scope [] (H1.push (lstO [])).objs.size env)) _ _
  generalize (H1.push (lstO [])).objs.size = CC at *
  generalize hDD : H1.objs.size = D at *
  have eC := e.comp hkind [] CC
  have hD0 : ld D = none := by rwa [upd_ne (fun q => by rw [q] at hsz; exact absurd hsz (Nat.lt_irrefl _))] at hD1
  have hDI : D ≠ I := fun q => by rw [q] at hsz; exact absurd hsz (Nat.lt_irrefl _)
  have hC0 : ld CC = none := by
    cases q : ld CC with
    | none => rfl
    | some o => rw [upd_old hD1 (upd_old hI0 q)] at hC3; cases hC3
  have hCI : CC ∉ [I] := fun q => by rw [List.mem_singleton.mp q, upd_ne (Ne.symm hDI), upd_self] at hC3; cases hC3
  have hDL : D ≠ L := fun q => by
    have := z₂.ns.lt
    rw [hDD, q] at this; exact absurd this (Nat.lt_irrefl _)
  have hLDI : LD ≠ I := hne
  have hLDD : LD ≠ D := fun q => by rw [← q, hLD] at hD0; cases hD0
  have hsize : (ls.map Value.ref).toArray.size = ls.length := by rw [List.size_toArray, List.length_map]
  have hflat : ∀ i, ((nss.take i).flatten).length ≤ 1000 := fun i => by
    have : nss.flatten = (nss.take i).flatten ++ (nss.drop i).flatten := by rw [← List.flatten_append, List.take_append_drop]
    rw [this, List.length_append] at hlen; omega
  have st0 : h₁.IsListIter I LD 0 ∧ h₁.IsList LD (ls.map Value.ref).toArray := ⟨⟨_, z₄.led I _ ((upd_ne (Ne.symm hLI)).trans ((upd_ne (Ne.symm hDI)).trans upd_self)), rfl, rfl⟩, z₄.isL ((upd_ne (z.neL hLD)).trans ((upd_ne hLDD).trans ((upd_ne hLDI).trans hLD)))⟩
  have lp : ∀ tk, codeAny (model prog w) A (.compLoop (.ListComp (.Name x1 pe) [⟨.Name x0 p0, .Name it p2, [], 0⟩, ⟨.Name x1 p1, .Name x0 p3, [], 0⟩] scope pos) 0 (.ref I) (.ref D) (compEnvC scope [] CC env))
      (compPost (model prog w) A (fun _ _ => False) (some (assign (.Name y py) env)) (fun _ s' => Q .next s') (.ref D) CC) { s with heap := h₁, toks := tk } := fun tk => by
    refine loop2a (fun k s' => ∃ h' tk i ys m' lq, s' = { s with heap := h', toks := tk } ∧ i ≤ ls.length ∧ k = ls.length + 1 - i ∧ (h'.IsListIter I LD i ∧ h'.IsList LD (ls.map Value.ref).toArray) ∧ Z b CC m' lq h' ∧ lq L = some oL ∧ Sub ld lq ∧ lq D = some (lstO ys) ∧ IntsAre ys (nss.take i).flatten ∧ (lq I).isSome = true) ?_ (ls.length + 1)
      ⟨h₁, tk, 0, [], _, _, rfl, Nat.zero_le _, rfl, st0, z₄, upd_self, fun a o q => (upd_ne (z.neL q)).trans (upd_old hD1 (upd_old hI0 q)), (upd_ne hDL).trans upd_self, .nil, by rw [upd_ne (Ne.symm hLI), upd_ne (Ne.symm hDI), upd_self]; rfl⟩ (by intro _; rfl) (hf _)
    rintro k s' ⟨h', tk', i, ys, m', lq, rfl, hi, rfl, hst', z', hqL, hk, hqD, hys, hqI⟩
    by_cases hlt : i < ls.length
    · refine W.item i _ _ _ (by rw [hsize]; exact hlt) hst' fun v h₂ tk₂ hPv hst₂ hk₂ => ?_
      have hl : ls[i]? = some ls[i] := List.getElem?_eq_getElem hlt
      obtain rfl : v = .ref ls[i] := by
        have : ((ls.map Value.ref).toArray)[i]? = some v := hPv
        rw [List.getElem?_toArray, List.getElem?_map, hl] at this
        exact (Option.some.inj this).symm
      have hlt' : i < nss.length := by rw [← hR.1]; exact hlt
      have hnl : nss[i]? = some nss[i] := List.getElem?_eq_getElem hlt'
      obtain ⟨vs, vn, hv1, hv2⟩ := hR.2 i _ _ hl hnl
      have z₅ := z'.sees (h₁ := h₂) hCI (fun a ha => by rw [List.mem_singleton.mp ha]; exact hIb) (fun a o q => hk₂ a o q)
      have sne : ∀ a, a ≠ I → sees [I] h₂ lq a = lq a := fun a ha => by unfold sees; rw [if_neg fun q => ha (List.mem_singleton.mp q)]
      have neI : ∀ a o, ld a = some o → a ≠ I := fun a o q q' => by rw [q', hI0] at q; cases q
      have neD : ∀ a o, ld a = some o → a ≠ D := fun a o q q' => by rw [q', hD0] at q; cases q
      refine wpAny_assign_Name (st_loc eC z₅ (fun h₃ z₆ => ?_) (lookup_relabel_local hx0))
      refine ev_loc eC z₆ (if_pos rfl) ?_ (lookup_relabel_local hx0) hd0
      have htk : (nss.take (i + 1)).flatten = (nss.take i).flatten ++ nss[i] := by rw [List.take_add_one, hnl, List.flatten_append]; simp
      have hb := hflat (i + 1)
      rw [htk, List.length_append] at hb
      refine inner_loop (s := { s with heap := h₃, toks := _ }) r eC z₆ ((sne _ (neI _ _ hv1)).trans (hk _ _ hv1)) ((sne _ hDI).trans hqD) hDn (neD _ _ hv1) (by rw [hys.length, hv2.length]; omega) (fun h₄ tk₄ m₄ l₄ z₇ k₄ hD₄ => ?_) (lookup_relabel_local hx1) hd1
      refine ⟨ls.length + 1 - (i + 1), by omega, h₄, tk₄, i + 1, ys ++ vs, m₄, l₄, rfl, hlt, rfl, ⟨?_, z₇.isL (k₄ _ _ hLDD ((sne _ hLDI).trans (hk _ _ hLD)))⟩, z₇, k₄ _ _ (Ne.symm hDL) ((sne _ hLI).trans hqL), fun a o q => k₄ _ _ (neD _ _ q) ((sne _ (neI _ _ q)).trans (hk _ _ q)), hD₄, by rw [htk]; exact hys.append hv2, ?_⟩
      · obtain ⟨o, q, rr⟩ := hst₂.1
        exact ⟨o, z₇.led _ _ (k₄ _ _ (Ne.symm hDI) (by unfold sees; rw [if_pos (List.mem_singleton.mpr rfl)]; exact q)), rr⟩
      · obtain ⟨o, q, _⟩ := hst₂.1
        rw [k₄ _ _ (Ne.symm hDI) (show sees [I] h₂ lq I = some o by unfold sees; rw [if_pos (List.mem_singleton.mpr rfl)]; exact q)]; rfl
    · obtain rfl : i = ls.length := Nat.le_antisymm hi (Nat.not_lt.mp hlt)
      refine W.done { s with heap := h', toks := tk' } _ _ (by rw [hsize]; exact hst') fun h₂ tk₂ hk₂ => ?_
      have z₅ := z'.sees (h₁ := h₂) hCI (fun a ha => by rw [List.mem_singleton.mp ha]; exact hIb) (fun a o q => hk₂ a o q)
      have sne : ∀ a, a ≠ I → sees [I] h₂ lq a = lq a := fun a ha => by unfold sees; rw [if_neg fun q => ha (List.mem_singleton.mp q)]
      have z₆ := z₅.back ((sne L hLI).trans hqL) hoL z.above (Heap.SameBut.refl _ _)
      rw [hR.1, List.take_length] at hys
      have hCn : off L (sees [I] h₂ lq) CC = none := by unfold off; rw [if_neg (Ne.symm hLC)]; exact z₅.fr
      refine post_use e z₆ hCn hLC z₅.ns (fun h₇ z₇ => h h₇ _ D _ z₇ hD0 hDn (fun a o q => ?_) ⟨ys, ys.length, ?_, hys⟩) hy
      · unfold off; rw [if_neg (z.neL q), sne _ (fun q' => by rw [q', hI0] at q; cases q)]; exact hk _ _ q
      · unfold off; rw [if_neg hDL, sne _ hDI]; exact hqD
  exact start2 (.inl rfl) (lp _) (W.self 0 _ _ _ st0 (lp _))
end
end Mine

namespace Mine
noncomputable abbrev lawB (w : World) : List Stmt := fnBody (KK w) 282
noncomputable abbrev lawS (w : World) : Scope := fnScope (KK w) 282
noncomputable abbrev buildB (w : World) : List Stmt := match (lawB w).getD 3 (.Pass default) with | .For _ _ b _ _ => b | _ => []
noncomputable abbrev turnB (w : World) : List Stmt := match (lawB w).getD 6 (.Pass default) with | .For _ _ b _ _ => b | _ => []
noncomputable abbrev popB (w : World) : List Stmt := match (turnB w).getD 5 (.Pass default) with | .While _ b _ _ => b | _ => []

def unset (f : Int → Option Bool) (k : Int) : Int → Option Bool := fun i => if i = -k then none else if i = k then none else f i
theorem absL_mid {A B : List Int} {k : Int} : (absL (A ++ k :: B)).Perm ((k.natAbs : Int) :: absL (A ++ B)) := (List.perm_middle (l₁ := A) (l₂ := B) (a := k)).map _
theorem HsOk.cut {A B : List Int} {k : Int} (h : HsOk (A ++ k :: B)) : HsOk (A ++ B) := by
  have hs : (A ++ B).Sublist (A ++ k :: B) := (List.Sublist.refl A).append (List.sublist_cons_self k B)
  exact ⟨h.nd.sublist (hs.map _), fun j hj => h.rng j (hs.mem hj)⟩
theorem HsOk.sub {hs hs' : List Int} (h : HsOk hs) (k : hs'.Sublist hs) : HsOk hs' := ⟨h.nd.sublist (k.map _), fun j hj => h.rng j (k.mem hj)⟩
theorem HeldIs.cut {A B : List Int} {f : Int → Option Bool} {k : Int} (h : HeldIs f (A ++ k :: B)) (ok : HsOk (A ++ k :: B)) : HeldIs (unset f (k.natAbs : Int)) (A ++ B) := by
  have hn : ∀ a ∈ A ++ B, a.natAbs ≠ k.natAbs := fun a ha e => by
    have := (absL_mid.nodup_iff.mp ok.nd)
    rw [List.nodup_cons] at this
    exact this.1 (List.mem_map.mpr ⟨a, ha, by rw [e]⟩)
  have full : ∀ j, j ∈ A ++ k :: B ↔ j ∈ A ++ B ∨ j = k := fun j => by simp only [List.mem_append, List.mem_cons]; exact ⟨fun q => by rcases q with q | q | q; exact .inl (.inl q); exact .inr q; exact .inl (.inr q), fun q => by rcases q with (q | q) | q; exact .inl q; exact .inr (.inr q); exact .inr (.inl q)⟩
  intro j
  unfold unset
  by_cases q1 : j = -(k.natAbs : Int)
  · rw [if_pos q1]
    exact ⟨⟨fun q => (nomatch q), fun q => absurd (by omega) (hn j q)⟩, ⟨fun q => (nomatch q), fun q => absurd (by omega) (hn (-j) q)⟩⟩
  · by_cases q2 : j = (k.natAbs : Int)
    · rw [if_neg q1, if_pos q2]
      exact ⟨⟨fun q => (nomatch q), fun q => absurd (by omega) (hn j q)⟩, ⟨fun q => (nomatch q), fun q => absurd (by omega) (hn (-j) q)⟩⟩
    · rw [if_neg q1, if_neg q2, (h j).1, (h j).2, full, full]
      have h1 : j ≠ k := by omega
      have h2 : -j ≠ k := by omega
      simp only [h1, h2, or_false, and_self]
theorem HeldIs.both {A B : List Int} {f : Int → Option Bool} {k : Int} (h : HeldIs f (A ++ k :: B)) : ∃ c c', f (k.natAbs : Int) = some c ∧ f (-(k.natAbs : Int)) = some c' := by
  have hk : k ∈ A ++ k :: B := List.mem_append_right _ (.head _)
  have h1 := (h k).1.mpr hk
  have h2 := (h (-k)).2.mpr (by rw [Int.neg_neg]; exact hk)
  rcases Int.natAbs_eq k with q | q
  · exact ⟨true, false, q ▸ h1, q ▸ h2⟩
  · refine ⟨false, true, ?_, ?_⟩
    · have : (k.natAbs : Int) = -k := by omega
      rw [this]; exact h2
    · have : -(k.natAbs : Int) = k := by omega
      rw [this]; exact h1
section
variable {w : World} {A : Around} {E : Value → Shared → Prop} {s : Shared} {mg mb : Str → Option Value} {b : Heap} {L : Addr} {m : Loc} {ld : Ld} {env : Env} {sc : Scope} {p : AsAddr} {f : Int → Option Bool} {seen asg : List Int}

set_option maxHeartbeats 2000000 in
/-- for other in a level: held[abs(other)] = None -/
theorem unset_walk {G last : List Int} {l : Addr} {Q : Flow → Shared → Prop} (C : Cx (KK w) mg mb b) (r : Room A 4) (e : EnvIs env (lawS w) L) (z : Z b L m ld s.heap) (hp : p.Ok b) (S : AS PP w ld p f seen asg) (hheld : m "held" = some (.ref p.a)) (hl : IntsAt ld l last)
    (ok : HsOk (G ++ last)) (hf : HeldIs f (G ++ last)) (ha : asg.Perm (absL (G ++ last)))
    (h : ∀ h' tk m' ld' f' seen' asg', Z b L m' ld' h' → Lo ["other"] m m' → (∀ x o, x ∉ p.W → ld x = some o → ld' x = some o) → AS PP w ld' p f' seen' asg' → HeldIs f' G → asg'.Perm (absL G) → Q .next { s with heap := h', toks := tk }) :
    wpAny (model PP w) A (pyIter (.ref l)) (fun it s₂ => codeAny (model PP w) A (.forLoop (match (popB w).getD 0 (.Pass default) with | .For t _ _ _ _ => t | _ => default) it (match (popB w).getD 0 (.Pass default) with | .For _ _ b _ _ => b | _ => []) [] env) (fun r s' => match r with | .ok f => Q f s' | .error e => cameBackBy (model PP w) A env (fun _ _ => False) e s') s₂) (fun _ _ => False) s := by
  show wpAny _ _ _ (fun it s₂ => codeAny _ _ (.forLoop (.Name "other" _) it [.Assign [.Subscript (.Name "held" _) (.Call (.Name "abs" _) [.Name "other" _] [] _) _] (.Constant .none _ _) _] [] env) _ _) _ _
  obtain ⟨vs, vn, hlD, hi⟩ := hl
  have hlW := IntsAt.notW ⟨vs, vn, hlD, hi⟩ S
  have hlA := IntsAt.neA ⟨vs, vn, hlD, hi⟩ S
  have hWI : ∀ I, ld I = none → I ∉ p.W ∧ I ≠ p.a := fun I hI => ⟨(fun hm => by obtain ⟨o, q⟩ := S.some hm; rw [hI] at q; cases q), (fun q => by rw [q, S.inst] at hI; cases hI)⟩
  refine iter_list r e z hlD (fun i m' l' => Lo ["other"] m m' ∧ (∀ x o, x ∉ p.W → ld x = some o → l' x = some o) ∧ ∃ f' seen' asg', AS PP w l' p f' seen' asg' ∧ HeldIs f' (G ++ last.drop i) ∧ asg'.Perm (absL (G ++ last.drop i))) ?_ ?_ ?_ ?_
  · intro ld₁ k
    exact ⟨Lo.refl, fun x o _ q => k x o q, f, seen, asg, S.sub k, by rw [List.drop_zero]; exact hf, by rw [List.drop_zero]; exact ha⟩
  · rintro I hI i m₁ l₁ l₂ ⟨j1, j2, f', seen', asg', j3, j4, j5⟩ k
    obtain ⟨i1, i2⟩ := hWI I hI
    exact ⟨j1, fun x o q1 q2 => (k x fun q => by rw [q, hI] at q2; cases q2).trans (j2 x o q1 q2), f', seen', asg', j3.congr (k _ (Ne.symm i2)) fun c hc => k c fun q => i1 (q ▸ hc), j4, j5⟩
  · rintro I oI i v m₁ lq h₁ tk₁ hI hqI hv ⟨j1, j2, f', seen', asg', j3, j4, j5⟩ hqx z
    obtain ⟨i1, i2⟩ := hWI I hI
    obtain ⟨k, t, rfl, hk⟩ := IntsAre.at hi i v (by simpa using hv)
    have hlt : i < last.length := (List.getElem?_eq_some_iff.mp hk).1
    have hdrop : last.drop i = k :: last.drop (i + 1) := by rw [List.drop_eq_getElem_cons hlt, (List.getElem?_eq_some_iff.mp hk).2]
    rw [hdrop] at j4 j5
    have ok' : HsOk (G ++ k :: last.drop (i + 1)) := by rw [← hdrop]; exact ok.sub ((List.Sublist.refl G).append (List.drop_sublist i last))
    have hr := ok'.rng k (List.mem_append_right _ (.head _))
    obtain ⟨g1, g2, g3, g4, g5, g6, u1, u2, u3, u4, u5, u6, nn, hdict⟩ := j3.dict
    obtain ⟨c, c', hc1, hc2⟩ := j4.both
    have habs : (if k < 0 then -k else k) = (k.natAbs : Int) := by split <;> omega
    refine wpAny_execs_cons (wpAny_Assign_Subscript (wpAny_Constant_none (ev_loc e z ((j1 _ (by decide)).trans hheld |> fun q => (show _ = m₁ "held" from rfl).trans q) (Call_ (ev_bi e C z rfl boot_abs (PyProof.Rows.callWith_builtin1 (args_cons (ev_loc e z (if_pos rfl) (args_nil (call_abs_int fun u tk₂ => set_inst C z j3.inst hdict rfl rfl rfl ?_))))))))))
    rw [habs]
    refine setnone_spec C z.bs (r.le (by omega)) hp (j3.here z) (by omega) hc1 hc2 fun h₃ tk₃ l3 seen3 led R hps S3 => ?_
    have z₃ := z.calls hp.W (j3.notL z) led R
    refine wpAny_execs_nil ⟨_, _, _, _, rfl, z₃, ⟨fun x hx => (if_neg fun q => hx (by rw [q]; exact .head _)).trans (j1 x hx), fun x o q1 q2 => (mix_out q1).trans (j2 x o q1 q2), _, seen3, _, j3.mixed S3, j4.cut ok', ?_⟩, fun a ha => ?_⟩
    · have := (j5.trans absL_mid).erase (k.natAbs : Int)
      rwa [List.erase_cons_head] at this
    · rcases List.mem_cons.mp ha with rfl | ha
      · exact mix_out i1
      · rw [List.mem_singleton.mp ha]; exact mix_out hlW
  · rintro m₁ lq h₁ tk₁ ⟨j1, j2, f', seen', asg', j3, j4, j5⟩ z
    have hz : last.drop vs.toArray.size = [] := by rw [List.size_toArray, hi.length, List.drop_length]
    rw [hz, List.append_nil] at j4 j5
    exact h _ _ _ _ _ _ _ z j1 j2 j3 j4 j5
end
end Mine

namespace Mine
abbrev turnN : List Str := ["turn", "number", "one", "wish", "granted", "keep", "right", "clash", "fresh", "levels", "other", "entry", "first", "second"]
/-- what stands still in the loop over the acts -/
structure TF (b : Heap) (F : Ld) (es : List (EA × List Int)) (p : AsAddr) (WD RD : Addr) (m0 : Loc) : Prop where
  rf : RF b F es
  fw : ∀ c ∈ p.W, F c = none
  wat : ∃ n, F WD = some (listOf (es.map fun a => Value.ref a.1.e).toArray n)
  ok : p.Ok b
  len : es.length ≤ 9
  wi : ∀ a ∈ es, Wish a.2
  mh : m0 "held" = some (.ref p.a)
  mw : m0 "watched" = some (.ref WD)
  mr : m0 "rows" = some (.ref RD)
/-- what turns in it -/
structure TS (w : World) (b : Heap) (F : Ld) (es : List (EA × List Int)) (p : AsAddr) (m0 m : Loc) (ld : Ld) (LD : Addr) (ls : List Addr) (lev : List (List Int)) (f : Int → Option Bool) (seen asg : List Int) (g : Nat → List Int) : Prop where
  mlo : Lo turnN m0 m
  ml : m "levels" = some (.ref LD)
  sub : Sub F ld
  as : AS PP w ld p f seen asg
  rs : RS es ld g
  lst : ∃ n, ld LD = some (listOf (ls.map Value.ref).toArray n)
  new : New b LD
  rows : Rows2 ld ls lev
  fr : ∀ x, x = LD ∨ x ∈ ls → ∀ a ∈ es, x ≠ a.1.l
  ap : LD ∉ ls
  fl : F LD = none
  fls : ∀ l ∈ ls, F l = none
/-- the plain side, but for the rows -/
structure TP (f : Int → Option Bool) (asg : List Int) (lev : List (List Int)) : Prop where
  ok : HsOk lev.flatten
  held : HeldIs f lev.flatten
  asg : asg.Perm (absL lev.flatten)
section
variable {w : World} {A : Around} {E : Value → Shared → Prop} {s : Shared} {mg mb : Str → Option Value} {b : Heap} {L : Addr} {m m0 : Loc} {ld F : Ld} {env : Env} {sc : Scope} {es : List (EA × List Int)} {p : AsAddr} {LD WD RD : Addr} {ls : List Addr} {lev : List (List Int)} {f : Int → Option Bool} {seen asg : List Int} {g : Nat → List Int}

theorem TS.locs (S : TS w b F es p m0 m ld LD ls lev f seen asg g) {m' : Loc} (h : Lo (turnN.erase "levels") m m') : TS w b F es p m0 m' ld LD ls lev f seen asg g :=
  { S with mlo := S.mlo.trans (h.le fun x hx => List.mem_of_mem_erase hx), ml := (h _ (by decide)).trans S.ml }
theorem TS.more (S : TS w b F es p m0 m ld LD ls lev f seen asg g) {ld' : Ld} (k : Sub ld ld') : TS w b F es p m0 m ld' LD ls lev f seen asg g :=
  { S with
    sub := fun x o q => k _ _ (S.sub x o q)
    as := S.as.sub k
    rs := fun j a ha => (S.rs j a ha).sub k
    lst := let ⟨n, q⟩ := S.lst; ⟨n, k _ _ q⟩
    rows := S.rows.sub k }
/-- a list of refs is no part of the table -/
theorem lst_notW {ld : Ld} {its : Array Value} {n : Nat} {l : Addr} (h : ld l = some (listOf its n)) (S : AS PP w ld p f seen asg) : l ∉ p.W := fun hm => by
  obtain ⟨h1, h2, h3, h4, h5, h6, t1, t2, t3, t4, t5, t6, nn, hdict⟩ := S.dict
  obtain ⟨o1, kvs1, hx1, hk1, _⟩ := S.data
  obtain ⟨o2, kvs2, hx2, hk2, _⟩ := S.orig
  obtain ⟨o3, hx3, hk3, _⟩ := S.seen
  obtain ⟨o4, hx4, hk4, _⟩ := S.asg
  obtain ⟨o5, _, hx5, hk5, _⟩ := S.nk
  simp only [AsAddr.W, List.mem_cons, List.not_mem_nil, or_false] at hm
  rcases hm with q | q | q | q | q | q
  · exact ne_of_cls h hdict (by simp) q
  · exact ne_of_cls h hx1 (by rw [dictOf_cls hk1]; simp) q
  · exact ne_of_cls h hx2 (by rw [dictOf_cls hk2]; simp) q
  · exact ne_of_cls h hx3 (by rw [setK_cls hk3]; simp) q
  · exact ne_of_cls h hx4 (by rw [setK_cls hk4]; simp) q
  · exact ne_of_cls h hx5 (by rw [setK_cls hk5]; simp) q
/-- the table turned -/
theorem TS.setAs (S : TS w b F es p m0 m ld LD ls lev f seen asg g) (R : TF b F es p WD RD m0) {ld' : Ld} {f' : Int → Option Bool} {seen' asg' : List Int} (k : ∀ x o, x ∉ p.W → ld x = some o → ld' x = some o) (S' : AS PP w ld' p f' seen' asg') : TS w b F es p m0 m ld' LD ls lev f' seen' asg' g :=
  { S with
    sub := fun x o q => k _ _ (fun hm => by rw [R.fw x hm] at q; cases q) (S.sub x o q)
    as := S'
    rs := fun j a ha => (S.rs j a ha).keep fun o => k _ _ ((S.rs j a ha).notW S.as)
    lst := let ⟨n, q⟩ := S.lst; ⟨n, k _ _ (lst_notW q S.as) q⟩
    rows := ⟨S.rows.1, fun i l ns h1 h2 => (S.rows.2 i l ns h1 h2).keep fun o => k _ _ ((S.rows.2 i l ns h1 h2).notW S.as)⟩ }

/-- an item from the end -/
theorem it_last {value slice : Expr} {l : Addr} {vs : List Value} {n : Nat} {u : Tok} {v : Value} {Q : Value → Shared → Prop} (z : Z b L m ld s.heap) (hl : ld l = some (listOf (vs ++ [v]).toArray n)) (h : Q v s)
    (hs : subscripted slice false (.ref l) (.int (-1) u) = operate [.ref l, .int (-1) u] (getItem (.ref l) (.int (-1) u)) := by with_unfolding_all rfl) : wpAny (model PP w) A (subscriptTail value slice (.ref l) (.int (-1) u)) Q E s := by
  have hsz : ((vs ++ [v]).toArray.size : Int) = vs.length + 1 := by rw [List.size_toArray, List.length_append]; rfl
  refine tail_any (z.isList hl).typeIs slot_list_getitem.lookup (wpAny_getItem_list_neg (z.isList hl) (by decide) (by omega) (by decide) ?_ h) hs
  rw [hsz, show (-1 + ((vs.length : Int) + 1)).toNat = vs.length by omega, List.getElem?_toArray]
  exact List.getElem?_concat_length

set_option maxHeartbeats 2000000 in
/-- a level is given back -/
theorem popB_walk {Q : Flow → Shared → Prop} (C : Cx (KK w) mg mb b) (r : Room A 4) (e : EnvIs env (lawS w) L) (z : Z b L m ld s.heap) (R : TF b F es p WD RD m0) {l : Addr} {last : List Int} (S : TS w b F es p m0 m ld LD (ls ++ [l]) (lev ++ [last]) f seen asg g) (P : TP f asg (lev ++ [last])) (hls : ls.length ≤ 100)
    (h : ∀ h' tk m' ld' LD' f' seen' asg', Z b L m' ld' h' → Lo ["other", "levels"] m m' → TS w b F es p m0 m' ld' LD' ls lev f' seen' asg' g → TP f' asg' lev → Q .next { s with heap := h', toks := tk }) :
    wpAny (model PP w) A (execs (popB w) env) Q (fun _ _ => False) s := by
  show wpAny _ _ (execs (.For (.Name "other" _) (.Subscript (.Name "levels" _) (.UnaryOp .USub (.Constant (.int 1) _ _) _) _) _ [] _ :: .Assign [.Name "levels" _] (.Subscript (.Name "levels" _) (.Slice none (some (.UnaryOp .USub (.Constant (.int 1) _ _) _)) none _) _) _ :: []) env) _ _ _
  obtain ⟨n, hLD⟩ := S.lst
  rw [List.map_append] at hLD
  have hfl : (lev ++ [last]).flatten = lev.flatten ++ last := by rw [List.flatten_append]; simp
  obtain ⟨ok, hf, ha⟩ := P
  rw [hfl] at ok hf ha
  have hlen : lev.length = ls.length := by have := S.rows.1; simp only [List.length_append, List.length_singleton] at this; omega
  have hlast : IntsAt ld l last := S.rows.2 ls.length l last List.getElem?_concat_length (by rw [← hlen]; exact List.getElem?_concat_length)
  refine wpAny_execs_cons (wpAny_For (Subscript_ (ev_loc e z S.ml (wpAny_UnaryOp (wpAny_Constant_int (neg_int ?_))))) (by intro _; rfl))
  refine it_last z hLD ?_
  refine unset_walk C r e z R.ok S.as ((S.mlo _ (by decide)).trans R.mh) hlast ok hf ha fun h₁ tk₁ m₁ l₁ f₁ seen₁ asg₁ z lo₁ k₁ S₁ hf₁ ha₁ => ?_
  have S2 := (S.setAs R k₁ S₁).locs (m' := m₁) (lo₁.le fun x hx => by rw [List.mem_singleton.mp hx]; decide)
  obtain ⟨n', hLD'⟩ := S2.lst
  rw [List.map_append] at hLD'
  dsimp only
  refine wpAny_execs_cons (wpAny_Assign_Name (Subscript_ (ev_loc e z S2.ml (wpAny_Slice (evalPart_none_step (evalPart_some_step (wpAny_UnaryOp (wpAny_Constant_int (neg_int (evalPart_none_step ?_))))))))))
  refine slice_end (s := { s with heap := h₁, toks := _ }) (us := ls.map Value.ref) z hLD' (by rw [List.length_append, List.length_map]; show ls.length + 1 ≤ 1000; omega) .none (.int (-1) _) ?_ fun D h₂ hD hDn z₂ => st_loc e z₂ fun h₃ z₃ => wpAny_execs_nil ?_
  · have := slicePick_butLast (ls.map Value.ref ++ [Value.ref l]).toArray 1 (Nat.le_refl _)
    refine this.trans ?_
    rw [List.size_toArray, List.length_append]
    show (List.take ((ls.map Value.ref).length + 1 - 1) (ls.map Value.ref ++ [Value.ref l])).toArray = _
    rw [Nat.add_sub_cancel, List.take_left']
    rfl
  · have up : Sub l₁ (upd l₁ D (listOf (ls.map Value.ref).toArray 0)) := fun x o q => upd_old hD q
    have S3 := S2.more up
    have hne : ∀ x o, l₁ x = some o → D ≠ x := fun x o q q' => by rw [← q', hD] at q; cases q
    refine h _ _ _ _ D f₁ seen₁ asg₁ z₃ (fun x hx => ?_) ⟨fun x hx => (if_neg fun q => hx (by rw [q]; decide)).trans (S3.mlo x hx), if_pos rfl, S3.sub, S3.as, S3.rs, ⟨0, upd_self⟩, hDn, ⟨hlen.symm, fun i a ns h1 h2 => ?_⟩, fun x hx a ha' => ?_, fun hm => ?_, ?_, fun l hl => S.fls l (List.mem_append_left _ hl)⟩ ⟨ok.sub (List.sublist_append_left _ _), hf₁, ha₁⟩
    · simp only [List.mem_cons, List.not_mem_nil, or_false, not_or] at hx
      rw [if_neg hx.2]; exact lo₁ x (fun q => hx.1 (List.mem_singleton.mp q))
    · have i1 := (List.getElem?_eq_some_iff.mp h1).1
      exact S3.rows.2 i a ns (by rw [List.getElem?_append_left i1]; exact h1) (by rw [List.getElem?_append_left (by rw [hlen]; exact i1)]; exact h2)
    · rcases hx with rfl | hx
      · obtain ⟨j, hj⟩ := List.getElem?_of_mem ha'
        obtain ⟨_, _, q, _⟩ := S2.rs j a hj
        exact hne _ _ q
      · exact S.fr x (.inr (List.mem_append_left _ hx)) a ha'
    · obtain ⟨i, hi⟩ := List.getElem?_of_mem hm
      have i1 := (List.getElem?_eq_some_iff.mp hi).1
      obtain ⟨_, _, q, _⟩ := S2.rows.2 i D lev[i] (by rw [List.getElem?_append_left i1]; exact hi) (by rw [List.getElem?_append_left (by omega)]; exact List.getElem?_eq_getElem (by omega))
      rw [hD] at q; cases q
    · cases q : F D with
      | none => rfl
      | some o => rw [S2.sub _ _ q] at hD; cases hD
end
end Mine

namespace Mine
section
variable {w : World} {A : Around} {E : Value → Shared → Prop} {s : Shared} {mg mb : Str → Option Value} {b : Heap} {L : Addr} {m m0 : Loc} {ld F : Ld} {env : Env} {sc : Scope} {es : List (EA × List Int)} {p : AsAddr} {LD WD RD : Addr} {ls : List Addr} {lev : List (List Int)} {f : Int → Option Bool} {seen asg : List Int} {g : Nat → List Int}

set_option maxHeartbeats 2000000 in
/-- while len(levels) > keep -/
theorem pops_walk {keep : Nat} {t : Tok} {Q : Flow → Shared → Prop} (C : Cx (KK w) mg mb b) (r : Room A 4) (e : EnvIs env (lawS w) L) (z : Z b L m ld s.heap) (R : TF b F es p WD RD m0) (S : TS w b F es p m0 m ld LD ls lev f seen asg g) (P : TP f asg lev) (hls : ls.length ≤ 100)
    (hk : m "keep" = some (.int keep t)) (hle : keep ≤ lev.length)
    (h : ∀ h' tk m' ld' LD' ls' f' seen' asg', Z b L m' ld' h' → TS w b F es p m0 m' ld' LD' ls' (lev.take keep) f' seen' asg' g → TP f' asg' (lev.take keep) → Q .next { s with heap := h', toks := tk }) :
    wpAny (model PP w) A (exec ((turnB w).getD 5 (.Pass default)) env) Q (fun _ _ => False) s := by
  show wpAny _ _ (exec (.While (.Compare (.Call (.Name "len" _) [.Name "levels" _] [] _) [.Gt] [.Name "keep" _] _) (popB w) [] _) env) _ _ _
  refine ex_while (fun n m' l' => ∃ LD' ls' f' seen' asg', m' "keep" = some (.int keep t) ∧ TS w b F es p m0 m' l' LD' ls' (lev.take n) f' seen' asg' g ∧ TP f' asg' (lev.take n) ∧ ls'.length = n ∧ keep ≤ n ∧ n ≤ lev.length) lev.length z
    ⟨LD, ls, f, seen, asg, hk, by rw [List.take_length]; exact S, by rw [List.take_length]; exact P, S.rows.1, hle, Nat.le_refl _⟩ ?_
  have hll : lev.length ≤ 100 := by rw [← S.rows.1]; exact hls
  clear S P z hk hle hls
  rintro n m₁ l₁ h₁ tk₁ ⟨LD', ls', f', seen', asg', hk, S, P, hn, hkn, hnl⟩ z
  obtain ⟨nn, hLD⟩ := S.lst
  refine wpAny_isTrue_Compare1 (Call_ (ev_bi e C z rfl boot_len (PyProof.Rows.callWith_builtin1 (args_cons (ev_loc e z S.ml (args_nil ?_))))))
  refine call_len_list (z.isList hLD) (by rw [List.size_toArray, List.length_map]; omega) ?_
  rw [List.size_toArray, List.length_map, hn]
  refine ev_loc (s := { s with heap := h₁, toks := _ }) e z hk (gt_int (wpAny_truthy_bool ?_))
  by_cases hgt : n > keep
  · rw [if_pos (decide_eq_true (by omega))]
    obtain ⟨k, rfl⟩ : ∃ k, n = k + 1 := ⟨n - 1, by omega⟩
    have hlt : k < lev.length := hnl
    have htk : lev.take (k + 1) = lev.take k ++ [lev[k]] := by rw [List.take_add_one, List.getElem?_eq_getElem hlt]; rfl
    have hls' : ls' = ls'.take k ++ [ls'[k]] := by
      have := List.take_add_one (l := ls') (i := k)
      rw [List.getElem?_eq_getElem (by omega), List.take_of_length_le (Nat.le_of_eq hn)] at this
      exact this
    rw [htk] at S P
    rw [hls'] at S
    refine popB_walk (s := { s with heap := h₁, toks := _ }) C r e z R S P (by rw [List.length_take]; omega) fun h₂ tk₂ m₂ l₂ LD₂ f₂ seen₂ asg₂ z lo S₂ P₂ => ?_
    exact ⟨k, _, _, _, _, Nat.lt_succ_self k, rfl, z, _, _, _, _, _, (lo _ (by decide)).trans hk, S₂, P₂, by rw [List.length_take]; omega, by omega, by omega⟩
  · rw [if_neg (by rw [decide_eq_false (by omega)]; decide)]
    obtain rfl : n = keep := by omega
    exact h _ _ _ _ _ _ _ _ _ z S P
end
end Mine

namespace Mine
noncomputable abbrev elseB (w : World) : List Stmt := match (turnB w).getD 4 (.Pass default) with | .If _ _ b _ => b | _ => []
/-- the earlier moments of a run of levels -/
def Pre (lev : List (List Int)) (P : List Int) : Prop := ∃ j, P = (lev.take j).flatten
theorem Pre.take {lev : List (List Int)} {k : Nat} {P : List Int} (h : Pre (lev.take k) P) : Pre lev P := let ⟨j, e⟩ := h; ⟨min j k, by rw [e, List.take_take]⟩
theorem Pre.sub {lev : List (List Int)} {P : List Int} (h : Pre lev P) : ∀ k ∈ P, k ∈ lev.flatten := fun k hk => by
  obtain ⟨j, rfl⟩ := h
  obtain ⟨l, h1, h2⟩ := List.mem_flatten.mp hk
  exact List.mem_flatten.mpr ⟨l, List.mem_of_mem_take h1, h2⟩
theorem Pre.full {lev : List (List Int)} : Pre lev lev.flatten := ⟨lev.length, by rw [List.take_length]⟩
theorem Pre.snoc {lev : List (List Int)} {Lv P : List Int} (h : Pre (lev ++ [Lv]) P) : Pre lev P ∨ P = lev.flatten ++ Lv := by
  obtain ⟨j, rfl⟩ := h
  by_cases hj : j ≤ lev.length
  · exact .inl ⟨j, by rw [List.take_append_of_le_length hj]⟩
  · refine .inr ?_
    rw [List.take_of_length_le (by rw [List.length_append]; exact Nat.not_le.mp hj), List.flatten_append]
    simp
open Classical in
noncomputable def cutP (D : Addr → Prop) (ld : Ld) : Ld := fun x => if D x then none else ld x
theorem cutP_in {D : Addr → Prop} {ld : Ld} {x : Addr} (h : D x) : cutP D ld x = none := by unfold cutP; rw [if_pos h]
theorem cutP_out {D : Addr → Prop} {ld : Ld} {x : Addr} (h : ¬ D x) : cutP D ld x = ld x := by unfold cutP; rw [if_neg h]
theorem cutP_sub {D : Addr → Prop} {ld : Ld} : Sub (cutP D ld) ld := fun x o h => by unfold cutP at h; split at h; cases h; exact h
theorem cutP_of {D : Addr → Prop} {F ld : Ld} (hD : ∀ x, D x → F x = none) (hF : Sub F ld) : Sub F (cutP D ld) := fun x o h => (cutP_out fun q => by rw [hD x q] at h; cases h).trans (hF x o h)
theorem off_ne {L x : Addr} {ld : Ld} (h : x ≠ L) : off L ld x = ld x := by unfold off; rw [if_neg h]
/-- back from a call that turned what D holds -/
theorem Z.calledD {D : Addr → Prop} {b : Heap} {L : Addr} {m : Loc} {ld ld' : Ld} {h h' : Heap} (z : Z b L m ld h) (led : Led ld' h') (hL : ¬ D L) (hb : ∀ x, D x → New b x) (hk : ∀ a o, ¬ D a → h.get? a = some o → ld' a = some o) : Z b L m (off L ld') h' where
  ns := z.ns.at' fun o q => led _ _ (hk _ _ hL q)
  led := fun a o q => by
    unfold off at q
    split at q
    · cases q
    · exact led _ _ q
  fr := by unfold off; rw [if_pos rfl]
  base := fun a o q => by
    have := z.base a o q
    rw [off_ne (z.neL this)]; exact hk _ _ (fun hD => by rw [(hb a hD).none] at q; cases q) (z.led _ _ this)
  above := z.above
section
variable {w : World} {A : Around} {E : Value → Shared → Prop} {s : Shared} {mg mb : Str → Option Value} {b : Heap} {L : Addr} {m m0 : Loc} {ld F : Ld} {env : Env} {sc : Scope} {es : List (EA × List Int)} {p : AsAddr} {LD WD RD : Addr} {ls : List Addr} {lev : List (List Int)} {f : Int → Option Bool} {seen asg : List Int} {g : Nat → List Int}

set_option maxHeartbeats 2000000 in
/-- right, clash, fresh = _law_carry(..) -/
theorem fresh_walk {wish : Int} {t : Tok} {gD : Addr} {Q : Flow → Shared → Prop} (C : Cx (KK w) mg mb b) (r : Room A 5) (e : EnvIs env (lawS w) L) (z : Z b L m ld s.heap) (R : TF b F es p WD RD m0) (S : TS w b F es p m0 m ld LD ls lev f seen asg g) (P : TP f asg lev) (hG : GP (Pre lev) es g)
    (hw : m "wish" = some (.int wish t)) (hW : Wi wish) (hg : m "granted" = some (.ref gD)) (hgD : IntsAt ld gD lev.flatten) (hga : ∀ a ∈ es, gD ≠ a.1.l)
    (h : ∀ h' tk m' ld' lv Lv c f' seen' asg' g', Z b L m' ld' h' → Lo ["right", "clash", "fresh"] m m' → m' "right" = some (.bool true) → m' "clash" = some (.bool c) → m' "fresh" = some (.ref lv) → TS w b F es p m0 m' ld' LD ls lev f' seen' asg' g' → IntsAt ld' lv Lv → New b lv → ld lv = none →
      TP f' asg' (lev ++ [Lv]) → GP (Pre lev) es g' → (c = false → GP (Pre (lev ++ [Lv])) es g') → Q .next { s with heap := h', toks := tk }) :
    wpAny (model PP w) A (exec ((elseB w).getD 0 (.Pass default)) env) Q (fun _ _ => False) s := by
  show wpAny _ _ (exec (.Assign [.Tuple [.Name "right" _, .Name "clash" _, .Name "fresh" _] _ _] (.Call (.Name "_law_carry" _) [.Name "held" _, .Name "watched" _, .Name "granted" _, .Name "wish" _] [] _) _) env) _ _ _
  obtain ⟨wn, hWD⟩ := R.wat
  let D : Addr → Prop := fun x => x ∈ p.W ∨ ∃ a ∈ es, x = a.1.l
  have hFD : ∀ x, D x → F x = none := fun x hx => by
    rcases hx with hx | ⟨a, ha, rfl⟩
    · exact R.fw x hx
    · exact R.rf.fl a ha
  have get : ∀ a ∈ es, ∃ j : Nat, es[j]? = some a := fun a ha => List.getElem?_of_mem ha
  have hDs : ∀ x, D x → ∃ o, ld x = some o := fun x hx => by
    rcases hx with hx | ⟨a, ha, rfl⟩
    · exact S.as.some hx
    · obtain ⟨j, hj⟩ := get a ha; obtain ⟨_, _, q, _⟩ := S.rs j a hj; exact ⟨_, q⟩
  have hFF : Sub F (cutP D ld) := cutP_of hFD S.sub
  have hDL : ¬ D L := fun q => by obtain ⟨o, q'⟩ := hDs L q; exact z.neL q' rfl
  have hgDD : ¬ D gD := fun q => by
    rcases q with q | ⟨a, ha, q⟩
    · exact hgD.notW S.as q
    · exact hga a ha q
  refine Assign_Tuple (Call_ (ev_glob e C z rfl (cw_K C rfl (args_cons (ev_loc e z ((S.mlo _ (by decide)).trans R.mh) (args_cons (ev_loc e z ((S.mlo _ (by decide)).trans R.mw) (args_cons (ev_loc e z hg (args_cons (ev_loc e z hw (args_nil ⟨z.stays, ?_⟩))))))))))))
  refine carry_spec (F := cutP D ld) (Ps := Pre lev) (G := lev.flatten) C z.bs (r.le (by omega)) (R.rf.mono hFF fun a ha => cutP_in (.inr ⟨a, ha, rfl⟩)) (fun c hc => cutP_in (.inl hc)) (fun x o q => z.led _ _ (cutP_sub x o q)) (hFF _ _ hWD) (let ⟨vs, n, q, r⟩ := hgD; ⟨vs, n, (cutP_out hgDD).trans q, r⟩) R.ok (S.as.here z)
    (fun j a ha => (S.rs j a ha).sub fun x o => z.led x o) ⟨by rw [List.append_nil]; exact P.ok, by rw [List.append_nil]; exact P.held, by rw [List.append_nil]; exact P.asg, hG⟩ (fun P hP => hP.sub) (fun j a ha => (hG j a ha).2 _ .full) hW R.len R.wi fun h₁ tk₁ l1 RR lv Lv c f₁ seen₁ asg₁ g₁ led k hR hR0 hRn hv0 hvn hRv hlv S₁ rs₁ P₁ st₁ => ?_
  have hk : ∀ a o, ¬ D a → s.heap.get? a = some o → l1 a = some o := fun a o hD q => k a o (fun h => hD (.inl h)) (fun a' ha e => hD (.inr ⟨a', ha, e⟩)) q
  have z₁ := z.calledD (D := D) led hDL (fun x hx => by
    rcases hx with hx | ⟨a, ha, rfl⟩
    · exact R.ok.W x hx
    · obtain ⟨j, hj⟩ := get a ha; exact (R.rf.ent j a hj).nl) hk
  have neL : ∀ x, s.heap.get? x = none → x ≠ L := fun x q e => by
    obtain ⟨oL, hL, _⟩ := LCg.ns_obj z.ns
    rw [e, hL] at q; cases q
  have hup : ∀ x o, ¬ D x → ld x = some o → off L l1 x = some o := fun x o hD q => (off_ne (z.neL q)).trans (hk x o hD (z.led _ _ q))
  have hlD : ∀ x ns, IntsAt ld x ns → (∀ a ∈ es, x ≠ a.1.l) → ¬ D x := fun x ns q1 q2 q => by
    rcases q with q | ⟨a, ha, q⟩
    · exact q1.notW S.as q
    · exact q2 a ha q
  have S3 : AS PP w (off L l1) p f₁ seen₁ asg₁ := S₁.congr (off_ne (z.neL S.as.inst)) fun c hc => off_ne fun e => S.as.notL z (e ▸ hc)
  have rs3 : RS es (off L l1) g₁ := fun j a ha => (rs₁ j a ha).keep fun o q => (off_ne (by obtain ⟨_, _, q, _⟩ := S.rs j a ha; exact z.neL q)).trans q
  have sub3 : Sub F (off L l1) := fun x o q => hup x o (fun hD => by rw [hFD x hD] at q; cases q) (S.sub x o q)
  have lst3 : ∃ n, off L l1 LD = some (listOf (ls.map Value.ref).toArray n) := by
    obtain ⟨n, q⟩ := S.lst
    refine ⟨n, hup _ _ (fun h => ?_) q⟩
    rcases h with h | ⟨a, ha, h⟩
    · exact lst_notW q S.as h
    · exact S.fr LD (.inl rfl) a ha h
  have rows3 : Rows2 (off L l1) ls lev := ⟨S.rows.1, fun i l ns q1 q2 => (S.rows.2 i l ns q1 q2).keep fun o => hup _ _ (hlD _ _ (S.rows.2 i l ns q1 q2) (S.fr l (.inr (List.mem_of_getElem? q1))))⟩
  have lv3 : IntsAt (off L l1) lv Lv := hlv.keep fun o q => (off_ne (neL _ hv0)).trans q
  have hR3 : off L l1 RR = some (back c lv) := (off_ne (neL _ hR0)).trans hR
  have hlv0 : ld lv = none := by
    cases q : ld lv with
    | none => rfl
    | some o => rw [z.led _ _ q] at hv0; cases hv0
  clear hup hlD hk hR hlv rs₁ S₁ k led
  refine as_unpack r.handled z₁ hR3 rfl rfl fun h₂ z₂ => ?_
  show wpAny _ A (assignInOrder [assign (.Name "right" _) env, assign (.Name "clash" _) env, assign (.Name "fresh" _) env] _) _ _ _
  refine assignInOrder_cons (wpAny_assign_Name (st_loc e z₂ fun h₃ z₃ => ?_))
  refine assignInOrder_cons (wpAny_assign_Name (st_loc e z₃ fun h₄ z₄ => ?_))
  refine assignInOrder_cons (wpAny_assign_Name (st_loc e z₄ fun h₅ z₅ => assignInOrder_nil ?_))
  have hfl : (lev ++ [Lv]).flatten = lev.flatten ++ Lv := by rw [List.flatten_append]; simp
  refine h _ _ _ _ lv Lv c f₁ seen₁ asg₁ g₁ z₅ (fun x hx => ?_) rfl rfl rfl ⟨S.mlo.trans fun x hx => ?_, S.ml, sub3, S3, rs3, lst3, S.new, rows3, S.fr, S.ap, S.fl, S.fls⟩ lv3 hvn hlv0 ⟨hfl ▸ P₁.ok, hfl ▸ P₁.held, hfl ▸ P₁.asg⟩ P₁.gp fun hc j a ha => ⟨(P₁.gp j a ha).1, fun P hP => ?_⟩
  · simp only [List.mem_cons, List.not_mem_nil, or_false, not_or] at hx
    rw [if_neg hx.2.2, if_neg hx.2.1, if_neg hx.1]
  · rw [if_neg fun q => hx (by rw [q]; decide), if_neg fun q => hx (by rw [q]; decide), if_neg fun q => hx (by rw [q]; decide)]
  · rcases hP.snoc with hP | rfl
    · exact (P₁.gp j a ha).2 P hP
    · exact st₁ hc j a ha
end
end Mine

namespace Mine
section
variable {w : World} {A : Around} {E : Value → Shared → Prop} {s : Shared} {mg mb : Str → Option Value} {b : Heap} {L : Addr} {m m0 : Loc} {ld F : Ld} {env : Env} {sc : Scope} {es : List (EA × List Int)} {p : AsAddr} {LD WD RD : Addr} {ls : List Addr} {lev : List (List Int)} {f : Int → Option Bool} {seen asg : List Int} {g : Nat → List Int}

set_option maxHeartbeats 2000000 in
/-- keep = len(levels) -/
theorem keep_walk {Q : Flow → Shared → Prop} {px pe p1 p2 p3 : Pos} (C : Cx (KK w) mg mb b) (e : EnvIs env (lawS w) L) (z : Z b L m ld s.heap) (hml : m "levels" = some (.ref LD)) {its : List Value} {n : Nat} (hLD : ld LD = some (listOf its.toArray n)) (hls : its.length ≤ 100)
    (h : ∀ h' tk t, Z b L (fun y => if y = "keep" then some (.int its.length t) else m y) ld h' → Q .next { s with heap := h', toks := tk }) :
    wpAny (model PP w) A (exec (.Assign [.Name "keep" px] (.Call (.Name "len" pe) [.Name "levels" p1] [] p2) p3) env) Q (fun _ _ => False) s := by
  refine wpAny_Assign_Name (Call_ (ev_bi e C z rfl boot_len (PyProof.Rows.callWith_builtin1 (args_cons (ev_loc e z hml (args_nil ?_))))))
  refine call_len_list (z.isList hLD) (by rw [List.size_toArray]; omega) ?_
  rw [List.size_toArray]
  exact st_loc e z fun h' z => h _ _ _ z

theorem snoc_level {lv : Addr} {Lv : List Int} {n : Nat} (S : TS w b F es p m0 m ld LD ls lev f seen asg g) (hlv : IntsAt ld lv Lv) (hla : ∀ a ∈ es, lv ≠ a.1.l) (hne : lv ≠ LD) (hFl : F lv = none) :
    TS w b F es p m0 m (upd ld LD (listOf ((ls ++ [lv]).map Value.ref).toArray n)) LD (ls ++ [lv]) (lev ++ [Lv]) f seen asg g := by
  obtain ⟨n0, hLD⟩ := S.lst
  have hW := lst_notW hLD S.as
  have ne : ∀ x o, x ≠ LD → ld x = some o → upd ld LD (listOf ((ls ++ [lv]).map Value.ref).toArray n) x = some o := fun x o q q' => (upd_ne q).trans q'
  refine { S with sub := fun x o q => ne x o (fun e => by rw [e, S.fl] at q; cases q) (S.sub x o q), as := S.as.congr (upd_ne (ne_of_cls S.as.inst hLD (by simp))) fun c hc => upd_ne fun e => hW (e ▸ hc), rs := fun j a ha => (S.rs j a ha).keep fun o => ne _ _ (fun e => S.fr LD (.inl rfl) a (List.mem_of_getElem? ha) e.symm), lst := ⟨n, upd_self⟩, rows := ⟨by rw [List.length_append, List.length_append, S.rows.1]; rfl, fun i l ns h1 h2 => ?_⟩, fr := fun x hx => ?_, ap := fun hm => ?_, fls := fun l hl => (List.mem_append.mp hl).elim (S.fls l) fun hl => by rw [List.mem_singleton.mp hl]; exact hFl }
  · rcases Nat.lt_trichotomy i ls.length with hl | hl | hl
    · rw [List.getElem?_append_left hl] at h1
      rw [List.getElem?_append_left (by rw [← S.rows.1]; exact hl)] at h2
      exact (S.rows.2 i l ns h1 h2).keep fun o => ne _ _ fun e => S.ap (e ▸ List.mem_of_getElem? h1)
    · subst hl
      rw [List.getElem?_concat_length] at h1
      rw [S.rows.1, List.getElem?_concat_length] at h2
      cases h1; cases h2
      exact hlv.keep fun o => ne _ _ hne
    · rw [List.getElem?_eq_none (by rw [List.length_append]; exact hl)] at h1; cases h1
  · rcases hx with rfl | hx
    · exact S.fr _ (.inl rfl)
    · rcases List.mem_append.mp hx with hx | hx
      · exact S.fr x (.inr hx)
      · rw [List.mem_singleton.mp hx]; exact hla
  · rcases List.mem_append.mp hm with hm | hm
    · exact S.ap hm
    · exact hne (List.mem_singleton.mp hm).symm

set_option maxHeartbeats 4000000 in
/-- a wish is taken up, or levels are to be given back -/
theorem act_walk {nu wish : Int} {tn tw : Tok} {gD : Addr} {Q : Flow → Shared → Prop} (C : Cx (KK w) mg mb b) (r : Room A 5) (e : EnvIs env (lawS w) L) (z : Z b L m ld s.heap) (R : TF b F es p WD RD m0) (S : TS w b F es p m0 m ld LD ls lev f seen asg g) (P : TP f asg lev) (hG : GP (Pre lev) es g)
    (hnu : m "number" = some (.int nu tn)) (hw : m "wish" = some (.int wish tw)) (hW : Wi wish) (hg : m "granted" = some (.ref gD)) (hgD : IntsAt ld gD lev.flatten) (hga : ∀ a ∈ es, gD ≠ a.1.l) (hls : ls.length ≤ 99) {rest : List Stmt}
    (h : ∀ h' tk m' ld' ls' lev' f' seen' asg' g' (k : Nat) t, Z b L m' ld' h' → TS w b F es p m0 m' ld' LD ls' lev' f' seen' asg' g' → TP f' asg' lev' → m' "keep" = some (.int k t) → k ≤ lev'.length → GP (Pre (lev'.take k)) es g' → ls'.length ≤ ls.length + 1 →
      wpAny (model PP w) A (execs rest env) Q (fun _ _ => False) { s with heap := h', toks := tk }) :
    wpAny (model PP w) A (execs ((turnB w).getD 3 (.Pass default) :: (turnB w).getD 4 (.Pass default) :: rest) env) Q (fun _ _ => False) s := by
  show wpAny _ _ (execs (.Assign [.Name "keep" _] (.Call (.Name "len" _) [.Name "levels" _] [] _) _ :: .If (.BoolOp .Or [.Compare (.BinOp (.Name "number" _) .Mod (.Constant (.int 4) _ _) _) [.Eq] [.Constant (.int 3) _ _] _, .Compare (.Name "wish" _) [.In] [.Name "granted" _] _, .Compare (.UnaryOp .USub (.Name "wish" _) _) [.In] [.Name "granted" _] _] _) [.Assign [.Name "keep" _] (.BinOp (.BinOp (.Name "number" _) .FloorDiv (.Constant (.int 4) _ _) _) .Mod (.BinOp (.Name "keep" _) .Add (.Constant (.int 1) _ _) _) _) _] (elseB w) _ :: rest) env) _ _ _
  obtain ⟨n, hLD⟩ := S.lst
  have hle : (ls.map Value.ref).length = lev.length := by rw [List.length_map, S.rows.1]
  refine wpAny_execs_cons (keep_walk C e z S.ml hLD (by rw [List.length_map]; omega) fun h₁ tk₁ t₁ z => ?_)
  rw [hle] at z
  have S1 := S.locs (m' := fun y => if y = "keep" then some (.int lev.length t₁) else m y) fun x hx => if_neg fun q => hx (by rw [q]; decide)
  have hk1 : (fun y : Str => if y = "keep" then some (Value.int lev.length t₁) else m y) "keep" = some (.int lev.length t₁) := rfl
  have hnu1 : (fun y : Str => if y = "keep" then some (Value.int lev.length t₁) else m y) "number" = some (.int nu tn) := hnu
  have hw1 : (fun y : Str => if y = "keep" then some (Value.int lev.length t₁) else m y) "wish" = some (.int wish tw) := hw
  have hg1 : (fun y : Str => if y = "keep" then some (Value.int lev.length t₁) else m y) "granted" = some (.ref gD) := hg
  generalize (fun y : Str => if y = "keep" then some (Value.int lev.length t₁) else m y) = m₁ at *
  clear S hnu hw hg
  have hl2 : lev.length ≤ 99 := by rw [← hle, List.length_map]; exact hls
  refine wpAny_execs_cons (wpAny_mono (Q := fun fl s' => fl = Flow.next ∧ ∃ h' tk m' ld' ls' lev' f' seen' asg' g', ∃ (k : Nat), ∃ t, s' = { s with heap := h', toks := tk } ∧ Z b L m' ld' h' ∧ TS w b F es p m0 m' ld' LD ls' lev' f' seen' asg' g' ∧ TP f' asg' lev' ∧ m' "keep" = some (.int k t) ∧ k ≤ lev'.length ∧ GP (Pre (lev'.take k)) es g' ∧ ls'.length ≤ ls.length + 1) ?_ ?_ fun _ _ x => x)
  rotate_left
  · rintro fl s' ⟨rfl, h', tk, m', ld', ls', lev', f', seen', asg', g', k, t, rfl, a1, a2, a3, a4, a5, a6, a7⟩
    exact h h' tk m' ld' ls' lev' f' seen' asg' g' k t a1 a2 a3 a4 a5 a6 a7
  clear h
  obtain ⟨gvs, gn, hgd, hgi⟩ := id hgD
  have back : ∀ tk, wpAny (model PP w) A (execs (match (turnB w).getD 4 (.Pass default) with | .If _ b _ _ => b | _ => []) env) (fun fl s' => fl = Flow.next ∧ ∃ h' tk m' ld' ls' lev' f' seen' asg' g', ∃ (k : Nat), ∃ t, s' = { s with heap := h', toks := tk } ∧ Z b L m' ld' h' ∧ TS w b F es p m0 m' ld' LD ls' lev' f' seen' asg' g' ∧ TP f' asg' lev' ∧ m' "keep" = some (.int k t) ∧ k ≤ lev'.length ∧ GP (Pre (lev'.take k)) es g' ∧ ls'.length ≤ ls.length + 1) (fun _ _ => False) { s with heap := h₁, toks := tk } := fun tk => by
    refine wpAny_execs_cons (wpAny_Assign_Name (wpAny_BinOp (wpAny_BinOp (ev_loc e z hnu1 (wpAny_Constant_int (floordiv_int (by decide) (wpAny_BinOp (ev_loc e z hk1 (wpAny_Constant_int (add_int (mod_int' (by omega) (st_loc e z fun h₂ z => wpAny_execs_nil ?_))))))))))))
    have a1 := Int.fmod_nonneg_of_pos (nu.fdiv 4) (b := (lev.length : Int) + 1) (by omega)
    have a2 := Int.fmod_lt_of_pos (nu.fdiv 4) (b := (lev.length : Int) + 1) (by omega)
    obtain ⟨k, hk⟩ := Int.eq_ofNat_of_zero_le a1
    refine ⟨rfl, _, _, _, _, ls, lev, f, seen, asg, g, k, _, rfl, z, S1.locs fun x hx => if_neg fun q => hx (by rw [q]; decide), P, (if_pos rfl).trans (congrArg (fun x => some (Value.int x _)) hk), by omega, fun j a ha => ⟨(hG j a ha).1, fun P hP => (hG j a ha).2 P hP.take⟩, Nat.le_succ _⟩
  refine wpAny_If (isTrue_or (wpAny_isTrue_Compare1 (wpAny_BinOp (ev_loc e z hnu1 (wpAny_Constant_int (mod_int' (by decide) (wpAny_Constant_int (eq_int (wpAny_truthy_bool ?_)))))))))
  by_cases c1 : (nu.fmod 4 == 3) = true
  · rw [if_pos c1, if_pos rfl]; exact back _
  rw [if_neg c1]
  refine isTrue_or (wpAny_isTrue_Compare1 (ev_loc e z hw1 (ev_loc e z hg1 (in_ints z hgd hgi (wpAny_truthy_bool ?_)))))
  by_cases c2 : wish ∈ lev.flatten
  · rw [if_pos (decide_eq_true c2), if_pos rfl]; exact back _
  rw [if_neg (by rw [decide_eq_false c2]; decide)]
  refine isTrue_or (wpAny_isTrue_Compare1 (ev_neg e z hw1 fun u2 tk2 => ev_loc e z hg1 (in_ints z hgd hgi (wpAny_truthy_bool ?_))))
  by_cases c3 : -wish ∈ lev.flatten
  · rw [if_pos (decide_eq_true c3), if_pos rfl]; exact back _
  rw [if_neg (by rw [decide_eq_false c3]; decide)]
  refine isTrue_or_nil ?_
  rw [if_neg (by decide)]
  clear back
  show wpAny _ _ (execs ((elseB w).getD 0 (.Pass default) :: .If (.UnaryOp .Not (.Name "right" _) _) _ [] _ :: .Expr (.Call (.Attribute (.Name "levels" _) "append" _) [.Name "fresh" _] [] _) _ :: .If (.UnaryOp .Not (.Name "clash" _) _) [.Assign [.Name "keep" _] (.Call (.Name "len" _) [.Name "levels" _] [] _) _] [] _ :: []) env) _ _ _
  refine wpAny_execs_cons (fresh_walk (s := { s with heap := h₁, toks := _ }) C r e z R S1 P hG hw1 hW hg1 hgD hga fun h₂ tk₂ m₂ l₂ lv Lv c f₂ seen₂ asg₂ g₂ z lo₂ hr2 hc2 hf2 S2 hlv hvn hv0 P2 G2 G2' => ?_)
  dsimp only
  refine wpAny_execs_cons (wpAny_If (isTrue_not (isTrue_plain (ev_loc e z hr2 (wpAny_truthy_bool ?_)))))
  rw [if_neg (by decide)]
  obtain ⟨n2, hLD2⟩ := S2.lst
  obtain ⟨nl, hLD1⟩ := S1.lst
  have hlvl : lv ≠ LD := fun q => by rw [q, hLD1] at hv0; cases hv0
  have hlva : ∀ a ∈ es, lv ≠ a.1.l := fun a ha q => by
    obtain ⟨j, hj⟩ := List.getElem?_of_mem ha
    obtain ⟨_, _, q', _⟩ := S1.rs j a hj
    rw [← q, hv0] at q'; cases q'
  refine wpAny_execs_nil (wpAny_execs_cons (ex_flat e (MethodCall_ (ev_loc e z S2.ml (lm_append z hLD2 (callWith_method1 (args_cons (ev_loc e z hf2 (args_nil ?_)))))))))
  refine l_append z hLD2 S2.new (by rw [List.length_map]; omega) fun h₃ z₃ => ⟨fun _ q => (nomatch q), ?_⟩
  dsimp only
  have S3 := snoc_level (n := n2 + 1) S2 hlv hlva hlvl (by
    cases q : F lv with
    | none => rfl
    | some o => rw [S1.sub _ _ q] at hv0; cases hv0)
  rw [show ls.map Value.ref ++ [Value.ref lv] = (ls ++ [lv]).map Value.ref from (List.map_append (f := Value.ref) (l₁ := ls) (l₂ := [lv])).symm] at z₃
  generalize hU : upd l₂ LD (listOf ((ls ++ [lv]).map Value.ref).toArray (n2 + 1)) = l₃ at z₃ S3
  have hl3 : (lev ++ [Lv]).length = lev.length + 1 := by rw [List.length_append]; rfl
  have hs3 : (ls ++ [lv]).length = ls.length + 1 := by rw [List.length_append]; rfl
  refine wpAny_execs_cons (wpAny_If (isTrue_not (isTrue_plain (ev_loc e z₃ hc2 (wpAny_truthy_bool ?_)))))
  cases c with
  | true =>
    rw [if_neg (by decide)]
    refine wpAny_execs_nil (wpAny_execs_nil ⟨rfl, _, _, _, _, _, _, f₂, seen₂, asg₂, g₂, lev.length, t₁, rfl, z₃, S3, P2, (lo₂ _ (by decide)).trans hk1, by omega, ?_, by omega⟩)
    rw [List.take_left']
    · exact G2
    · rfl
  | false =>
    rw [if_pos (by decide)]
    obtain ⟨n3, hLD3⟩ := S3.lst
    refine wpAny_execs_cons (keep_walk (s := { s with heap := h₃, toks := tk₂ }) C e z₃ S3.ml hLD3 (by rw [List.length_map]; omega) fun h₄ tk₄ t₄ z₄ => ?_)
    refine wpAny_execs_nil (wpAny_execs_nil ⟨rfl, _, _, _, _, _, _, f₂, seen₂, asg₂, g₂, lev.length + 1, t₄, rfl, z₄, S3.locs fun x hx => if_neg fun q => hx (by rw [q]; decide), P2, (if_pos rfl).trans ?_, by omega, ?_, by omega⟩)
    · rw [List.length_map, S3.rows.1, hl3]
    · rw [List.take_of_length_le (by omega)]
      exact G2' rfl
end
end Mine

namespace Mine
section
variable {w : World} {A : Around} {E : Value → Shared → Prop} {s : Shared} {mg mb : Str → Option Value} {b : Heap} {L : Addr} {m m0 : Loc} {ld F : Ld} {env : Env} {sc : Scope} {es : List (EA × List Int)} {p : AsAddr} {LD WD RD : Addr} {ls : List Addr} {lev : List (List Int)} {f : Int → Option Bool} {seen asg : List Int} {g : Nat → List Int}

/-- held.num_assigned -/
theorem num_spec {expr : Bool} {Q : Value → Shared → Prop} (C : Cx (KK w) mg mb b) (r : Room A 2) (z : Z b L m ld s.heap) (S : AS PP w ld p f seen asg) (h : ∀ h' tk t, Z b L m ld h' → Q (.int asg.length t) { s with heap := h', toks := tk }) :
    wpAny (model PP w) A (getAttr (.ref p.a) "num_assigned" expr) Q E s := by
  obtain ⟨h1, h2, h3, h4, h5, h6, t1, t2, t3, t4, t5, t6, nn, hdict⟩ := S.dict
  obtain ⟨o4, hx4, hk4, hl4⟩ := S.asg
  refine PySem.W.get_prop (p := 235) (fget := 234) z.F C.X (inst_at z S.inst hdict) rfl rfl rfl rfl rfl rfl ?_
  refine enterC (n := 0) (s := { s with toks := s.toks + 1 }) C z.bs r.in1 rfl rfl rfl (BindsTo.of_eq rfl) rfl rfl rfl rfl rfl rfl rfl rfl ?_
  intro A' env L' h₁ tk r' e z'
  dsimp only at e
  refine wpAny_execs_cons (wpAny_Return_some (Call_ (ev_bi e C z' rfl boot_len (PyProof.Rows.callWith_builtin1 (args_cons (Attribute_Name_ (ev_loc e z' rfl (ga_own C z' (z.led _ _ S.inst) (z.led _ _ hdict) rfl rfl rfl rfl rfl (args_nil ?_)))))))))
  refine k_len z' (z.led _ _ hx4) hk4 fun t tk' => ?_
  exact handed_on rfl (h _ _ _ (z.call0 z'.led))
end
end Mine

namespace Mine
noncomputable abbrev seeB (w : World) : List Stmt := match (turnB w).getD 8 (.Pass default) with | .For _ _ b _ _ => b | _ => []
section
variable {w : World} {A : Around} {E : Value → Shared → Prop} {s : Shared} {mg mb : Str → Option Value} {b : Heap} {L : Addr} {m m0 : Loc} {ld F : Ld} {env : Env} {sc : Scope} {es : List (EA × List Int)} {p : AsAddr} {LD WD RD : Addr} {ls : List Addr} {lev : List (List Int)} {f : Int → Option Bool} {seen asg : List Int} {g : Nat → List Int}

/-- -x in granted and y not in granted: no -/
theorem half_walk {x1 x2 : Str} {x y : Int} {tx ty : Tok} {gD : Addr} {G : List Int} {gvs : List Value} {gn : Nat} {p1 p2 p3 p4 p5 p6 p7 p8 : Pos} {whole : Sem Value} {Q : Bool → Shared → Prop} (e : EnvIs env (lawS w) L) (z : Z b L m ld s.heap)
    (hx : m x1 = some (.int x tx)) (hy : m x2 = some (.int y ty)) (hg : m "granted" = some (.ref gD)) (hgd : ld gD = some (listOf gvs.toArray gn)) (hgi : IntsAre gvs G) (hS : -x ∈ G → y ∈ G) (h : ∀ tk, Q false { s with toks := tk })
    (h1 : (lawS w).names.lookup x1 = some .local := by rfl) (h2 : (lawS w).names.lookup x2 = some .local := by rfl) (h3 : (x1 == ("__debug__" : Str)) = false := by decide) (h4 : (x2 == ("__debug__" : Str)) = false := by decide) :
    wpAny (model PP w) A (isTrue (.BoolOp .And [.Compare (.UnaryOp .USub (.Name x1 p1) p2) [.In] [.Name "granted" p3] p4, .Compare (.Name x2 p5) [.NotIn] [.Name "granted" p6] p7] p8) env whole) Q E s := by
  refine isTrue_and (wpAny_isTrue_Compare1 (ev_neg e z hx (fun u tk => ev_loc e z hg (in_ints z hgd hgi (wpAny_truthy_bool ?_))) h1 h3))
  by_cases c : -x ∈ G
  · rw [if_pos (decide_eq_true c)]
    refine isTrue_and (wpAny_isTrue_Compare1 (ev_loc e z hy (ev_loc e z hg (notin_ints z hgd hgi (wpAny_truthy_bool ?_))) h2 h4))
    rw [if_neg (by rw [decide_eq_false fun q => q (hS c)]; exact Bool.false_ne_true)]
    exact h _
  · rw [if_neg (by rw [decide_eq_false c]; exact Bool.false_ne_true)]
    exact h _

set_option maxHeartbeats 2000000 in
/-- a row is looked at -/
theorem see_walk {a : EA} {pls lits G : List Int} {gD : Addr} {Q : Flow → Shared → Prop} (C : Cx (KK w) mg mb b) (r : Room A 3) (e : EnvIs env (lawS w) L) (z : Z b L m ld s.heap) (hE : Ent b F a pls) (hF : Sub F ld) (hl : IntsAt ld a.l lits) (hp : lits.Perm pls) (hS : Stab G lits)
    (hen : m "entry" = some (.ref a.e)) (hg : m "granted" = some (.ref gD)) (hgD : IntsAt ld gD G)
    (h : ∀ h' tk m', Z b L m' ld h' → Lo ["first", "second"] m m' → Q .next { s with heap := h', toks := tk }) :
    wpAny (model PP w) A (execs (seeB w) env) Q (fun _ _ => False) s := by
  show wpAny _ _ (execs (.Assign [.Tuple [.Name "first" _, .Name "second" _] _ _] (.Subscript (.Subscript (.Name "entry" _) (.Constant (.int 0) _ _) _) (.Slice none (some (.Constant (.int 2) _ _)) none _) _) _ :: .If (.BoolOp .Or [.BoolOp .And [_, _] _, .BoolOp .And [_, _] _] _) _ [] _ :: []) env) _ _ _
  obtain ⟨h1, h2, h3, t1, t2, t3, v1, v2, n, hd⟩ := hE.dict
  have h60 := hE.len
  have h2' := hE.two
  have hll := hp.length_eq
  obtain ⟨x, y, rest, rfl⟩ : ∃ x y rest, lits = x :: y :: rest := by
    match lits, hll with
    | [], h => simp at h; omega
    | [_], h => simp at h; omega
    | x :: y :: rest, _ => exact ⟨x, y, rest, rfl⟩
  have hcl : Cl ld a.c a.d a.l v1 v2 (x :: y :: rest) := ⟨hF _ _ hE.inst, ⟨h1, h2, h3, t1, t2, t3, n, hF _ _ hd⟩, hl⟩
  have hent := hF _ _ hE.ent
  refine wpAny_execs_cons (Assign_Tuple (Subscript_ (Subscript_ (ev_loc e z hen (wpAny_Constant_int (item_list (z.isList hent) (by decide) (by decide) (x := .ref a.c) rfl ?_))))))
  refine wpAny_Slice (evalPart_none_step (evalPart_some_step (wpAny_Constant_int (evalPart_none_step ?_))))
  have z₁ := z.push { cls := .type "slice", data := .fields #[.none, .int 2 (s.toks + 1), .none] }
  have hs : (s.heap.push { cls := .type "slice", data := .fields #[.none, .int 2 (s.toks + 1), .none] }).get? s.heap.objs.size = some { cls := .type "slice", data := .fields #[.none, .int 2 (s.toks + 1), .none] } := Heap.get?_push_size _ rfl
  have hz0 := z.size_none
  dsimp only
  generalize s.heap.push { cls := .type "slice", data := .fields #[.none, .int 2 (s.toks + 1), .none] } = H at z₁ hs ⊢
  have z := z.drop z₁ hz0
  refine row_cut (s := { s with heap := H, toks := _ }) C z hcl ?_
  refine clcut_spec (hi' := some 2) C z.bs (r.le (by omega)) (hcl.mono fun _ _ q => z.led _ _ q) (by omega) ⟨_, hs, rfl, rfl⟩ (.int 2 _) fun D h' tk' vs hD hDn led hi => ?_
  have hDl : ld D = none := by
    cases q : ld D with
    | none => rfl
    | some o => rw [z.led _ _ q] at hD; cases hD
  have z₂ : Z b L m (upd ld D (listOf vs.toArray 0)) h' := z.pushed hD hDn (fun a o q => led _ _ (upd_old hD q)) (led _ _ upd_self)
  obtain ⟨tx, ty, rfl⟩ : ∃ tx ty, vs = [.int x tx, .int y ty] := by
    have hi : IntsAre vs [x, y] := hi
    cases hi with
    | cons _ tx hi => cases hi with
      | cons _ ty hi => cases hi with
        | nil => exact ⟨tx, ty, rfl⟩
  refine as_unpack r.handled z₂ upd_self rfl rfl fun h₂ z₃ => ?_
  have z := z.drop z₃ hDl
  show wpAny _ A (assignInOrder [assign (.Name "first" _) env, assign (.Name "second" _) env] _) _ _ _
  refine assignInOrder_cons (wpAny_assign_Name (st_loc e z fun h₃ z => ?_))
  refine assignInOrder_cons (wpAny_assign_Name (st_loc e z fun h₄ z => assignInOrder_nil ?_))
  obtain ⟨gvs, gn, hgd, hgi⟩ := hgD
  dsimp only
  refine wpAny_execs_cons (wpAny_If (isTrue_or (half_walk e z rfl rfl hg hgd hgi hS.1 fun tk => ?_)))
  rw [if_neg (by decide)]
  refine isTrue_or (half_walk e z rfl rfl hg hgd hgi hS.2 fun tk => ?_)
  rw [if_neg (by decide)]
  refine isTrue_or_nil ?_
  rw [if_neg (by decide)]
  refine wpAny_execs_nil (wpAny_execs_nil (h _ _ _ z fun x hx => ?_))
  simp only [List.mem_cons, List.not_mem_nil, or_false, not_or] at hx
  rw [if_neg hx.2, if_neg hx.1]
end
end Mine

namespace Mine
section
variable {w : World} {A : Around} {E : Value → Shared → Prop} {s : Shared} {mg mb : Str → Option Value} {b : Heap} {L : Addr} {m m0 : Loc} {ld F : Ld} {env : Env} {sc : Scope} {es : List (EA × List Int)} {p : AsAddr} {LD WD RD : Addr} {ls : List Addr} {lev : List (List Int)} {f : Int → Option Bool} {seen asg : List Int} {g : Nat → List Int}

set_option maxHeartbeats 2000000 in
/-- num_assigned, and the rows looked at -/
theorem look_walk {gD : Addr} {Q : Flow → Shared → Prop} (C : Cx (KK w) mg mb b) (r : Room A 4) (e : EnvIs env (lawS w) L) (z : Z b L m ld s.heap) (R : TF b F es p WD RD m0) (S : TS w b F es p m0 m ld LD ls lev f seen asg g) (P : TP f asg lev) (hG : GP (Pre lev) es g)
    (hg : m "granted" = some (.ref gD)) (hgD : IntsAt ld gD lev.flatten)
    (h : ∀ h' tk m' ld', Z b L m' ld' h' → TS w b F es p m0 m' ld' LD ls lev f seen asg g → Q .next { s with heap := h', toks := tk }) :
    wpAny (model PP w) A (execs ((turnB w).getD 7 (.Pass default) :: (turnB w).getD 8 (.Pass default) :: []) env) Q (fun _ _ => False) s := by
  show wpAny _ _ (execs (.If (.Compare (.Attribute (.Name "held" _) "num_assigned" _) [.NotEq] [.Call (.Name "len" _) [.Name "granted" _] [] _] _) _ [] _ :: .For (.Name "entry" _) (.Name "watched" _) (seeB w) [] _ :: []) env) _ _ _
  obtain ⟨gvs, gn, hgd, hgi⟩ := id hgD
  have hlen : asg.length = lev.flatten.length := by rw [P.asg.length_eq, absL, List.length_map]
  have h19 := P.ok.len
  refine wpAny_execs_cons (wpAny_If (wpAny_isTrue_Compare1 (Attribute_Name_ (ev_loc e z ((S.mlo _ (by decide)).trans R.mh) (num_spec C (r.le (by omega)) z S.as fun h₁ tk₁ t₁ z => ?_)))))
  refine Call_ (ev_bi e C z rfl boot_len (PyProof.Rows.callWith_builtin1 (args_cons (ev_loc e z hg (args_nil ?_)))))
  refine call_len_list (z.isList hgd) (by rw [List.size_toArray, hgi.length]; omega) (ne_int (wpAny_truthy_bool ?_))
  rw [List.size_toArray, hgi.length, hlen, if_neg (by simp)]
  obtain ⟨wn, hWD⟩ := R.wat
  refine wpAny_execs_nil (wpAny_execs_cons (wpAny_For (ev_loc e z ((S.mlo _ (by decide)).trans R.mw) ?_) (by intro _; rfl)))
  refine iter_list r e z (S.sub _ _ hWD) (fun i m' l' => Lo ["entry", "first", "second"] m m' ∧ Sub ld l') ?_ ?_ ?_ ?_
  · intro ld₁ k; exact ⟨Lo.refl, k⟩
  · rintro I hI i m₁ l₁ l₂ ⟨j1, j2⟩ k
    exact ⟨j1, fun x o q => (k x fun e => by rw [e, hI] at q; cases q).trans (j2 x o q)⟩
  · rintro I oI i v m₁ lq h₂ tk₂ hI hqI hv ⟨j1, j2⟩ hqx z
    obtain ⟨a, ha, rfl⟩ : ∃ a, es[i]? = some a ∧ v = .ref a.1.e := by
      rw [List.getElem?_toArray, List.getElem?_map] at hv
      obtain ⟨a, h1, h2⟩ := Option.map_eq_some_iff.mp hv
      exact ⟨a, h1, h2.symm⟩
    obtain ⟨hp, hS⟩ := hG i a ha
    refine see_walk C (r.le (by omega)) e z (R.rf.ent i a ha) (fun x o q => j2 _ _ (S.sub x o q)) ((S.rs i a ha).sub j2) hp (hS _ .full) rfl ((j1 _ (by decide)).trans hg |> fun q => (show _ = m₁ "granted" from rfl).trans q) (hgD.sub j2) fun h₃ tk₃ m₃ z lo => ?_
    refine ⟨_, _, _, _, rfl, z, ⟨fun x hx => ?_, j2⟩, fun _ _ => rfl⟩
    simp only [List.mem_cons, List.not_mem_nil, or_false, not_or] at hx
    exact ((lo x (by simp [hx.2.1, hx.2.2])).trans (if_neg hx.1)).trans (j1 x (by simp [hx.1, hx.2.1, hx.2.2]))
  · rintro m₁ lq h₂ tk₂ ⟨j1, j2⟩ z
    exact wpAny_execs_nil (h _ _ _ _ z ((S.more j2).locs (j1.le (by decide))))

set_option maxHeartbeats 2000000 in
/-- a turn of law's loop -/
theorem turn_walk {nu : Int} {i : Nat} {tn tt : Tok} {Q : Flow → Shared → Prop} (C : Cx (KK w) mg mb b) (r : Room A 5) (e : EnvIs env (lawS w) L) {cells : List (Str × Addr)} (hcs : env.cells = cells) (z : Z b L m ld s.heap) (R : TF b F es p WD RD m0) (S : TS w b F es p m0 m ld LD ls lev f seen asg g) (P : TP f asg lev) (hG : GP (Pre lev) es g)
    (hnu : m "number" = some (.int nu tn)) (htu : m "turn" = some (.int i tt)) (hls : ls.length ≤ 50)
    (h : ∀ h' tk m' ld' LD' ls' lev' f' seen' asg' g', Z b L m' ld' h' → TS w b F es p m0 m' ld' LD' ls' lev' f' seen' asg' g' → TP f' asg' lev' → GP (Pre lev') es g' → ls'.length ≤ ls.length + 1 → Q .next { s with heap := h', toks := tk }) :
    wpAny (model PP w) A (execs (turnB w) env) Q (fun _ _ => False) s := by
  show wpAny _ _ (execs (.Assign [.Name "one" _] (.BinOp (.BinOp (.BinOp (.Name "number" _) .FloorDiv (.Constant (.int 4) _ _) _) .Add (.Name "turn" _) _) .Mod (.Constant (.int 10) _ _) _) _ :: .Assign [.Name "wish" _] (.IfExp _ _ _ _) _ :: .Assign [.Name "granted" _] (.ListComp _ [_, _] _ _) _ :: (turnB w).getD 3 (.Pass default) :: (turnB w).getD 4 (.Pass default) ::
    (turnB w).getD 5 (.Pass default) :: .Assign [.Name "granted" _] (.ListComp _ [_, _] _ _) _ :: (turnB w).getD 7 (.Pass default) :: (turnB w).getD 8 (.Pass default) :: []) env) _ _ _
  have h19 := P.ok.len
  refine wpAny_execs_cons (wpAny_Assign_Name (wpAny_BinOp (wpAny_BinOp (wpAny_BinOp (ev_loc e z hnu (wpAny_Constant_int (floordiv_int (by decide) (ev_loc e z htu (add_int (wpAny_Constant_int (mod_int' (by decide) (st_loc e z fun h₁ z => ?_))))))))))))
  refine wpAny_execs_cons (wpAny_Assign_Name (ev_wish e z (if_pos rfl) fun k u tk hW => st_loc e z fun h₂ z => ?_))
  dsimp only
  obtain ⟨m₂, lo₂, hw₂, z⟩ : ∃ m₂, Lo ["one", "wish"] m m₂ ∧ m₂ "wish" = some (.int k u) ∧ Z b L m₂ ld h₂ := ⟨_, fun x hx => by
    simp only [List.mem_cons, List.not_mem_nil, or_false, not_or] at hx
    exact (if_neg hx.2).trans (if_neg hx.1), if_pos rfl, z⟩
  have S2 := S.locs (m' := m₂) (lo₂.le (by decide))
  obtain ⟨n2, hLD⟩ := S2.lst
  refine wpAny_execs_cons (as_flat r e hcs z S2.ml hLD S2.rows (by omega) fun h₃ tk₃ D l₃ z hD hDn k₃ hD3 => ?_)
  have S3 := (S2.more k₃).locs (m' := fun n => if n = "granted" then some (.ref D) else m₂ n) fun x hx => if_neg fun q => hx (by rw [q]; decide)
  dsimp only
  refine act_walk (s := { s with heap := h₃, toks := tk₃ }) C r e z R S3 P hG ((lo₂ _ (by decide)).trans hnu |> fun q => (show _ = m₂ "number" from rfl).trans q) hw₂ hW (if_pos rfl) hD3 (fun a ha q => ?_) (by omega) fun h₄ tk₄ m₄ l₄ ls₄ lev₄ f₄ seen₄ asg₄ g₄ kk t₄ z S4 P4 hk4 hk4' G4 hl4 => ?_
  · obtain ⟨j, hj⟩ := List.getElem?_of_mem ha
    obtain ⟨_, _, q', _⟩ := S2.rs j a hj
    rw [← q, hD] at q'; cases q'
  refine wpAny_execs_cons (pops_walk (s := { s with heap := h₄, toks := tk₄ }) C (r.le (by omega)) e z R S4 P4 (by omega) hk4 hk4' fun h₅ tk₅ m₅ l₅ LD₅ ls₅ f₅ seen₅ asg₅ z S5 P5 => ?_)
  have h19' := P5.ok.len
  obtain ⟨n5, hLD5⟩ := S5.lst
  refine wpAny_execs_cons (as_flat (s := { s with heap := h₅, toks := tk₅ }) r e hcs z S5.ml hLD5 S5.rows (by omega) fun h₆ tk₆ D6 l₆ z hD6 hDn6 k₆ hD66 => ?_)
  have S6 := (S5.more k₆).locs (m' := fun n => if n = "granted" then some (.ref D6) else m₅ n) fun x hx => if_neg fun q => hx (by rw [q]; decide)
  dsimp only
  refine look_walk (s := { s with heap := h₆, toks := tk₆ }) C (r.le (by omega)) e z R S6 P5 G4 (if_pos rfl) hD66 fun h₇ tk₇ m₇ l₇ z S7 => ?_
  refine h _ _ _ _ _ _ _ _ _ _ _ z S7 P5 G4 ?_
  have a1 := S7.rows.1
  have a2 := S4.rows.1
  rw [List.length_take] at a1
  omega
end
end Mine

namespace Mine
section
variable {w : World} {A : Around} {E : Value → Shared → Prop} {s : Shared} {mg mb : Str → Option Value} {b : Heap} {L : Addr} {m m0 : Loc} {ld F : Ld} {env : Env} {sc : Scope} {es : List (EA × List Int)} {p : AsAddr} {LD WD RD : Addr} {ls : List Addr} {lev : List (List Int)} {f : Int → Option Bool} {seen asg : List Int} {g : Nat → List Int}

theorem TF.ext {X : Ld} (R : TF b F es p WD RD m0) (h : Sub F X) (hl : ∀ a ∈ es, X a.1.l = none) (hW : ∀ c ∈ p.W, X c = none) : TF b X es p WD RD m0 :=
  { R with rf := R.rf.mono h hl, fw := hW, wat := let ⟨n, q⟩ := R.wat; ⟨n, h _ _ q⟩ }
/-- x is none of what turns -/
structure Far (es : List (EA × List Int)) (p : AsAddr) (LD : Addr) (ls : List Addr) (x : Addr) : Prop where
  ld : x ≠ LD
  ls : x ∉ ls
  w : x ∉ p.W
  a : x ≠ p.a
  l : ∀ a ∈ es, x ≠ a.1.l
theorem TS.far (S : TS w b F es p m0 m ld LD ls lev f seen asg g) {x : Addr} (h : ld x = none) : Far es p LD ls x := by
  refine ⟨fun e => ?_, fun hm => ?_, fun hm => ?_, fun e => ?_, fun a ha e => ?_⟩
  · obtain ⟨n, q⟩ := S.lst; rw [← e, h] at q; cases q
  · obtain ⟨i, hi⟩ := List.getElem?_of_mem hm
    have hlt := (List.getElem?_eq_some_iff.mp hi).1
    have hlt' : i < lev.length := by rw [← S.rows.1]; exact hlt
    obtain ⟨_, _, q, _⟩ := S.rows.2 i x lev[i] hi (List.getElem?_eq_getElem hlt')
    rw [h] at q; cases q
  · obtain ⟨o, q⟩ := S.as.some hm; rw [h] at q; cases q
  · have q := S.as.inst; rw [← e, h] at q; cases q
  · obtain ⟨j, hj⟩ := List.getElem?_of_mem ha
    obtain ⟨_, _, q, _⟩ := S.rs j a hj
    rw [← e, h] at q; cases q
theorem TS.turned (S : TS w b F es p m0 m ld LD ls lev f seen asg g) {l' : Ld} {D : Addr → Prop} (hD : ∀ x, D x → Far es p LD ls x ∧ F x = none) (k : ∀ x, ¬ D x → l' x = ld x) : TS w b F es p m0 m l' LD ls lev f seen asg g :=
  { S with
    sub := fun x o q => (k x fun h => by rw [(hD x h).2] at q; cases q).trans (S.sub x o q)
    as := S.as.congr (k _ fun h => (hD _ h).1.a rfl) fun c hc => k c fun h => (hD c h).1.w hc
    rs := fun j a ha => (S.rs j a ha).keep fun o q => (k _ fun h => (hD _ h).1.l a (List.mem_of_getElem? ha) rfl).trans q
    lst := let ⟨n, q⟩ := S.lst; ⟨n, (k _ fun h => (hD _ h).1.ld rfl).trans q⟩
    rows := ⟨S.rows.1, fun i l ns h1 h2 => (S.rows.2 i l ns h1 h2).keep fun o q => (k _ fun h => (hD _ h).1.ls (List.mem_of_getElem? h1)).trans q⟩ }

/-- a list of five ints -/
theorem ev_five {a1 a2 a3 a4 a5 : Int} {k1 k2 k3 k4 k5 : Nat} {p1 p2 p3 p4 p5 pos : Pos} {Q : Value → Shared → Prop} (z : Z b L m ld s.heap)
    (h : ∀ D h' tk ys, ld D = none → New b D → Z b L m (upd ld D (listOf ys.toArray 0)) h' → IntsAre ys [a1, a2, a3, a4, a5] → Q (.ref D) { s with heap := h', toks := tk }) :
    wpAny (model PP w) A (eval (.List [.Constant (.int a1) k1 p1, .Constant (.int a2) k2 p2, .Constant (.int a3) k3 p3, .Constant (.int a4) k4 p4, .Constant (.int a5) k5 p5] pos) env) Q E s :=
  ev_list (b := b) (L := L) (args_cons (wpAny_Constant_int (args_cons (wpAny_Constant_int (args_cons (wpAny_Constant_int (args_cons (wpAny_Constant_int (args_cons (wpAny_Constant_int (args_nil ⟨_, _, z, Nat.le_add_left 5 9995, fun D h' hD hDn z' =>
    h D h' _ _ hD hDn z' (.cons _ _ (.cons _ _ (.cons _ _ (.cons _ _ (.cons _ _ .nil)))))⟩)))))))))))

set_option maxHeartbeats 2000000 in
theorem acts_walk {sD : Addr} {nums : List Int} {Q : Flow → Shared → Prop} (C : Cx (KK w) mg mb b) (r : Room A 5) (e : EnvIs env (lawS w) L) {cells : List (Str × Addr)} (hcs : env.cells = cells) (z : Z b L m ld s.heap) (R : TF b F es p WD RD m0) (S : TS w b F es p m0 m ld LD [] [] f seen asg g) (P : TP f asg []) (hG : GP (Pre []) es g)
    (hsc : m "script" = some (.ref sD)) (hsD : IntsAt ld sD nums) (hn : nums.length ≤ 8)
    (h : ∀ h' tk m' ld', Z b L m' ld' h' → Sub F ld' → Lo turnN m0 m' → Q .next { s with heap := h', toks := tk }) :
    wpAny (model PP w) A (exec ((lawB w).getD 6 (.Pass default)) env) Q (fun _ _ => False) s := by
  show wpAny _ _ (exec (.For (.Tuple [.Name "turn" _, .Name "number" _] _ _) (.Call (.Name "enumerate" _) [.BinOp (.Name "script" _) .Add (.List [.Constant (.int 28) _ _, .Constant (.int 28) _ _, .Constant (.int 8) _ _, .Constant (.int 32) _ _, .Constant (.int 3) _ _] _) _] [] _) (turnB w) [] _) env) _ _ _
  obtain ⟨svs, sn, hs1, hs2⟩ := hsD
  have hsl := hs2.length
  refine wpAny_For (Call_ (ev_bi e C z rfl PyProof.Rows.boot_enumerate (Pv.callWith_type1 (args_cons (wpAny_BinOp (ev_loc e z hsc ?_)))))) (by intro _; rfl)
  refine ev_five z fun D1 h₁ tk₁ ys hD1 hD1n z₁ hys => ?_
  have hyl := hys.length
  refine l_add z₁ (upd_old hD1 hs1) upd_self (by omega) (by rw [hyl]; exact Nat.le_add_left 5 995) fun D h₂ hD hDn z₂ => args_nil ?_
  have hD0 : ld D = none := by
    cases q : ld D with
    | none => rfl
    | some o => rw [upd_old hD1 q] at hD; cases hD
  have z₃ : Z b L m (upd ld D (listOf (svs ++ ys).toArray 0)) h₂ := z₂.mono (fun x o q => by
    by_cases hx : x = D
    · subst hx; rw [upd_self] at q ⊢; exact q
    · rw [upd_ne hx] at q ⊢; exact upd_old hD1 q) fun x o q => upd_old hD0 (z.base x o q)
  have hints := hs2.append hys
  have S3 := S.more (ld' := upd ld D (listOf (svs ++ ys).toArray 0)) fun x o q => upd_old hD0 q
  have hfar := S.far hD0
  have hsz : (nums ++ [28, 28, 8, 32, 3] : List Int).length ≤ 13 := by rw [List.length_append]; show nums.length + 5 ≤ 13; omega
  have hup : upd ld D (listOf (svs ++ ys).toArray 0) D = some (listOf (svs ++ ys).toArray 0) := upd_self
  have lo0 := S.mlo
  clear z₂ z₁ z S
  generalize upd ld D (listOf (svs ++ ys).toArray 0) = l₁ at z₃ S3 hup
  generalize svs ++ ys = its at hints hup
  generalize (nums ++ [28, 28, 8, 32, 3] : List Int) = ns at hints hsz
  have hil : its.length = ns.length := hints.length
  refine iter_enumI (s := { s with heap := h₂, toks := tk₁ }) r e z₃ hup (fun I I' i m' l' => (F I = none ∧ F I' = none) ∧ ∃ LD' ls' lev' f' seen' asg' g', TS w b F es p m0 m' l' LD' ls' lev' f' seen' asg' g' ∧ TP f' asg' lev' ∧ GP (Pre lev') es g' ∧ ls'.length ≤ i ∧ Far es p LD' ls' I ∧ Far es p LD' ls' I' ∧ Far es p LD' ls' D) ?_ ?_ ?_ ?_
  · intro I I' ld₁ hI hI' k
    have fn : ∀ x, l₁ x = none → F x = none := fun x q => by
      cases q' : F x with
      | none => rfl
      | some o => rw [S3.sub _ _ q'] at q; cases q
    exact ⟨⟨fn _ hI, fn _ hI'⟩, LD, [], [], f, seen, asg, g, S3.more k, P, hG, Nat.le_refl _, S3.far hI, S3.far hI', hfar⟩
  · rintro I I' hI hI' i m₁ l₁ l₂ ⟨j0, LD', ls', lev', f', seen', asg', g', j1, j2, j3, j4, j5, j6, j7⟩ k
    refine ⟨j0, LD', ls', lev', f', seen', asg', g', j1.turned (D := fun x => x = I ∨ x = I') (fun x hx => ?_) (fun x hx => k x (fun q => hx (.inl q)) fun q => hx (.inr q)), j2, j3, j4, j5, j6, j7⟩
    rcases hx with rfl | rfl
    · exact ⟨j5, j0.1⟩
    · exact ⟨j6, j0.2⟩
  · rintro I I' oI oI' i t v m₁ lq h₃ tk₃ hI hI' hqI hqI' hv ⟨j0, LD', ls', lev', f', seen', asg', g', j1, j2, j3, j4, j5, j6, j7⟩ hqx z
    obtain ⟨nu, tn, rfl, hk⟩ := IntsAre.at hints i v (by simpa using hv)
    have hi13 : i < 13 := Nat.lt_of_lt_of_le (List.getElem?_eq_some_iff.mp hk).1 hsz
    let X : Ld := fun x => if x = I ∨ x = I' ∨ x = D then lq x else F x
    have hFX : Sub F X := fun x o q => by
      show (if _ then _ else _) = _
      split
      · exact j1.sub _ _ q
      · exact q
    have hXl : Sub X lq := fun x o q => by
      have q : (if x = I ∨ x = I' ∨ x = D then lq x else F x) = some o := q
      split at q
      · exact q
      · exact j1.sub _ _ q
    have far : ∀ x, x = I ∨ x = I' ∨ x = D → Far es p LD' ls' x := fun x hx => by
      rcases hx with rfl | rfl | rfl
      · exact j5
      · exact j6
      · exact j7
    have hXn : ∀ x, (∀ y, y = I ∨ y = I' ∨ y = D → y ≠ x) → F x = none → X x = none := fun x h1 h2 => by
      show (if _ then _ else _) = _
      rw [if_neg fun q => h1 x q rfl]; exact h2
    have hXs : ∀ x, x = I ∨ x = I' ∨ x = D → ∃ o, X x = some o := fun x hx => by
      have : ∃ o, lq x = some o := by
        rcases hx with rfl | rfl | rfl
        · exact ⟨_, hqI⟩
        · exact ⟨_, hqI'⟩
        · exact ⟨_, hqx⟩
      obtain ⟨o, ho⟩ := this
      exact ⟨o, (if_pos hx).trans ho⟩
    have RX := R.ext (X := X) hFX (fun a ha => hXn _ (fun y hy => (far y hy).l a ha) (R.rf.fl a ha)) fun c hc => hXn _ (fun y hy e => (far y hy).w (e ▸ hc)) (R.fw c hc)
    have SX : TS w b X es p m0 m₁ lq LD' ls' lev' f' seen' asg' g' := { j1 with sub := hXl, fl := hXn _ (fun y hy => (far y hy).ld) j1.fl, fls := fun l hl => hXn _ (fun y hy e => (far y hy).ls (e ▸ hl)) (j1.fls l hl) }
    have SX := SX.locs (m' := fun y => if y = "number" then some (.int nu tn) else if y = "turn" then some (.int i t) else m₁ y) fun x hx => by
      show (if _ then _ else _) = _
      rw [if_neg fun q => hx (by rw [q]; decide), if_neg fun q => hx (by rw [q]; decide)]
    refine turn_walk (s := { s with heap := h₃, toks := tk₃ }) C r e hcs z RX SX j2 j3 rfl rfl (by omega) fun h₄ tk₄ m₄ l₄ LD₄ ls₄ lev₄ f₄ seen₄ asg₄ g₄ z S4 P4 G4 hl4 => ?_
    have nn : ∀ x, X x = none → F x = none := fun x q => by
      cases q' : F x with
      | none => rfl
      | some o => rw [hFX _ _ q'] at q; cases q
    have far4 : ∀ x, x = I ∨ x = I' ∨ x = D → Far es p LD₄ ls₄ x := fun x hx => by
      obtain ⟨o, ho⟩ := hXs x hx
      exact ⟨(fun e => by rw [e, S4.fl] at ho; cases ho), (fun hm => by rw [S4.fls _ hm] at ho; cases ho), (far x hx).w, (far x hx).a, (far x hx).l⟩
    refine ⟨_, _, _, _, rfl, z, ⟨j0, LD₄, ls₄, lev₄, f₄, seen₄, asg₄, g₄, { S4 with sub := fun x o q => S4.sub _ _ (hFX x o q), fl := nn _ S4.fl, fls := fun l hl => nn _ (S4.fls l hl) }, P4, G4, by omega, far4 _ (.inl rfl), far4 _ (.inr (.inl rfl)), far4 _ (.inr (.inr rfl))⟩, fun a ha => ?_⟩
    have ha' : a = I ∨ a = I' ∨ a = D := by simpa using ha
    obtain ⟨o, ho⟩ := hXs a ha'
    rw [S4.sub _ _ ho, hXl _ _ ho]
  · rintro m₁ lq h₃ tk₃ I I' ⟨j0, LD', ls', lev', f', seen', asg', g', j1, j2⟩ z
    exact h _ _ _ _ z j1.sub j1.mlo
end
end Mine

namespace Mine
section
variable {w : World} {A : Around} {E : Value → Shared → Prop} {s : Shared} {mg mb : Str → Option Value} {b : Heap} {L : Addr} {m m0 : Loc} {ld F : Ld} {env : Env} {sc : Scope}

theorem none_of {ld ld' : Ld} {x : Addr} (k : Sub ld ld') (h : ld' x = none) : ld x = none := by
  cases q : ld x with
  | none => rfl
  | some o => rw [k _ _ q] at h; cases h
/-- back from a call that only made things -/
theorem Z.made {ld' : Ld} {h h' : Heap} (z : Z b L m ld h) (led : Led ld' h') (k : ∀ a o, h.get? a = some o → ld' a = some o) : Z b L m (off L ld') h' ∧ Sub ld (off L ld') ∧ ∀ x, h.get? x = none → off L ld' x = ld' x :=
  ⟨z.calledD (D := fun _ => False) led (fun h => h) (fun _ h => h.elim) fun a o _ => k a o, fun x o q => (off_ne (z.neL q)).trans (k _ _ (z.led _ _ q)), fun x q => off_ne fun e => by
    obtain ⟨oL, hL, _⟩ := LCg.ns_obj z.ns
    rw [e, hL] at q; cases q⟩

set_option maxHeartbeats 2000000 in
/-- given = wishes[:]; row = Clause(..) -/
theorem given_walk {i : Nat} {tp : Tok} {W : Addr} {ks : List Int} {rest : List Stmt} {Q : Flow → Shared → Prop} (C : Cx (KK w) mg mb b) (r : Room A 3) (e : EnvIs env (lawS w) L) (z : Z b L m ld s.heap) (hpl : m "place" = some (.int i tp)) (hW : m "wishes" = some (.ref W)) (hWi : IntsAt ld W ks) (hlen : ks.length ≤ 5)
    (h : ∀ h' tk m' ld' G c d l, Z b L m' ld' h' → Lo ["given", "row"] m m' → Sub ld ld' → m' "given" = some (.ref G) → m' "row" = some (.ref c) → IntsAt ld' G ks →
      Cl ld' c d l (.bool ((i : Int).fmod 2 == 1)) (.int i tp) (dedup ks) → (∀ x ∈ [G, c, d, l], ld x = none) → G ≠ l → New b l → wpAny (model PP w) A (execs rest env) Q (fun _ _ => False) { s with heap := h', toks := tk }) :
    wpAny (model PP w) A (execs ((buildB w).getD 1 (.Pass default) :: (buildB w).getD 2 (.Pass default) :: rest) env) Q (fun _ _ => False) s := by
  show wpAny _ _ (execs (.Assign [.Name "given" _] (.Subscript (.Name "wishes" _) (.Slice none none none _) _) _ :: .Assign [.Name "row" _] (.Call (.Name "Clause" _) [.Name "given" _, .Compare (.BinOp (.Name "place" _) .Mod (.Constant (.int 2) _ _) _) [.Eq] [.Constant (.int 1) _ _] _, .Name "place" _] [] _) _ :: rest) env) _ _ _
  obtain ⟨wvs, wn, hw1, hw2⟩ := hWi
  refine wpAny_execs_cons (wpAny_Assign_Name (Subscript_ (ev_loc e z hW (wpAny_Slice (evalPart_none_step (evalPart_none_step (evalPart_none_step ?_)))))))
  refine slice_end (us := wvs) z hw1 (by rw [hw2.length]; omega) .none .none (slicePick_all _) fun G h₁ hG hGn z₁ => st_loc e z₁ fun h₂ z₂ => ?_
  dsimp only
  refine wpAny_execs_cons (wpAny_Assign_Name (Call_ (ev_glob e C z₂ rfl (cw_K C rfl (args_cons (ev_loc e z₂ rfl (args_cons (wpAny_Compare1 (wpAny_BinOp (ev_loc e z₂ hpl (wpAny_Constant_int (mod_int' (by decide) (wpAny_Constant_int (eq_int (args_cons (ev_loc e z₂ hpl (args_nil ⟨z₂.stays, ?_⟩)))))))))))))))))
  refine mkClause_spec (v1 := .bool ((i : Int).fmod 2 == 1)) (v2 := .int i tp) C z₂.bs (r.le (by omega)) (z₂.led _ _ upd_self) hw2 (by omega) (.inr rfl) rfl rfl fun h₃ tk₃ l3 c d l led k hc hd hl hcn hdn hln hcl => ?_
  obtain ⟨z₄, k₄, n₄⟩ := z₂.made led k
  have kk : Sub ld (off L l3) := fun x o q => k₄ _ _ (upd_old hG q)
  have fr : ∀ x, h₂.get? x = none → ld x = none := fun x q => by
    cases q' : ld x with
    | none => rfl
    | some o => rw [z₂.led _ _ (upd_old hG q')] at q; cases q
  refine st_loc e z₄ fun h₅ z₅ => h _ _ _ _ G c d l z₅ (fun x hx => ?_) kk rfl rfl ⟨wvs, 0, k₄ _ _ upd_self, hw2⟩ ?_ ?_ (fun q => by have := z₂.led _ _ (upd_self (ld := ld) (a := G) (o := listOf wvs.toArray 0)); rw [q, hl] at this; cases this) hln
  · simp only [List.mem_cons, List.not_mem_nil, or_false, not_or] at hx
    exact (if_neg hx.2).trans (if_neg hx.1)
  · obtain ⟨g1, g2, g3, t1, t2, t3, n, hdd⟩ := hcl.dict
    obtain ⟨vs, ln, q1, q2⟩ := hcl.list
    exact ⟨(n₄ _ hc).trans hcl.inst, ⟨g1, g2, g3, t1, t2, t3, n, (n₄ _ hd).trans hdd⟩, ⟨vs, ln, (n₄ _ hl).trans q1, q2⟩⟩
  · intro x hx
    simp only [List.mem_cons, List.not_mem_nil, or_false] at hx
    rcases hx with rfl | rfl | rfl | rfl
    · exact hG
    · exact fr _ hc
    · exact fr _ hd
    · exact fr _ hl

set_option maxHeartbeats 2000000 in
/-- wishes = .. -/
theorem wishes_walk {nu : Int} {i : Nat} {tn tp : Tok} {Q : Flow → Shared → Prop} (C : Cx (KK w) mg mb b) (r : Room A 3) (e : EnvIs env (lawS w) L) (z : Z b L m ld s.heap) (hnu : m "number" = some (.int nu tn)) (hpl : m "place" = some (.int i tp))
    (h : ∀ h' tk ld' W ks, Z b L (fun y => if y = "wishes" then some (.ref W) else m y) ld' h' → Sub ld ld' → IntsAt ld' W ks → Wish ks → 2 ≤ ks.length → ks.length ≤ 5 → ld W = none → Q .next { s with heap := h', toks := tk }) :
    wpAny (model PP w) A (exec ((buildB w).getD 0 (.Pass default)) env) Q (fun _ _ => False) s := by
  show wpAny _ _ (exec (.Assign [.Name "wishes" _] (.BinOp (.Call (.Name "_law_wishes" _) [.Name "number" _, .Name "place" _] [] _) .Add (.IfExp (.Compare (.Name "place" _) [.Eq] [.Constant (.int 0) _ _] _) (.List [.Constant (.int 1) _ _] _) (.List [] _) _) _) _) env) _ _ _
  refine wpAny_Assign_Name (wpAny_BinOp (Call_ (ev_glob e C z rfl (cw_K C rfl (args_cons (ev_loc e z hnu (args_cons (ev_loc e z hpl (args_nil ⟨z.stays, ?_⟩)))))))))
  refine wishes_spec C z.bs (r.le (by omega)) fun h₁ tk₁ D ys ks l1 led k hD hDn hD' hys hWs h2 h4 => ?_
  obtain ⟨z₁, k₁, n₁⟩ := z.made led k
  have hD1 := (n₁ D hD).trans hD'
  clear k led n₁
  refine wpAny_IfExp (wpAny_isTrue_Compare1 (ev_loc e z₁ hpl (wpAny_Constant_int (eq_int (wpAny_truthy_bool ?_)))))
  have fin : ∀ us (s₂ : Shared) D2, off L l1 D2 = none → Z b L m (upd (off L l1) D2 (listOf us.toArray 0)) s₂.heap → (∃ h t, s₂ = { s with heap := h, toks := t }) → ∀ ks2, IntsAre us ks2 → Wish ks2 → ks2.length ≤ 1 →
      wpAny (model PP w) A (binaryOp .Add (.ref D) (.ref D2)) (fun v s₁ => wpAny (model PP w) A (storeName env "wishes" v) (fun _ => Q .next) (fun _ _ => False) s₁) (fun _ _ => False) s₂ := by
    rintro us s₂ D2 hD2 z₂ ⟨h₂, t₂, rfl⟩ ks2 hi2 hW2 hk2
    refine l_add z₂ (upd_old hD2 hD1) upd_self (by rw [hys.length]; omega) (by rw [hi2.length]; omega) fun W h₃ hW0 hWn z₃ => ?_
    have hWo : off L l1 W = none := none_of (fun x o => upd_old hD2) hW0
    refine st_loc e z₃ fun h₄ z₄ => h _ _ (upd (off L l1) W (listOf (ys ++ us).toArray 0)) W (ks ++ ks2) ?_ (fun x o q => upd_old hWo (k₁ x o q)) ⟨_, _, upd_self, hys.append hi2⟩ (fun k hk => (List.mem_append.mp hk).elim (hWs k) (hW2 k)) (by rw [List.length_append]; omega) (by rw [List.length_append]; omega) (none_of k₁ hWo)
    exact z₄.mono (fun x o q => by
      by_cases hx : x = W
      · subst hx; rw [upd_self] at q ⊢; exact q
      · rw [upd_ne hx] at q ⊢; exact upd_old hD2 q) fun x o q => upd_old hWo (z₁.base x o q)
  by_cases hz : ((i : Int) == 0) = true
  · rw [if_pos hz]
    refine ev_list (b := b) (L := L) (args_cons (wpAny_Constant_int (args_nil ⟨_, _, z₁, Nat.le_add_left 1 9999, fun D2 h₂ hD2 hD2n z₂ => ?_⟩)))
    exact fin _ _ D2 hD2 z₂ ⟨_, _, rfl⟩ [1] (.cons _ _ .nil) (fun k hk => by rw [List.mem_singleton.mp hk]; exact ⟨by decide, by decide, by decide⟩) (Nat.le_refl _)
  · rw [if_neg hz]
    exact ev_nil z₁ fun D2 h₂ hD2 hD2n z₂ => fin [] _ D2 hD2 z₂ ⟨_, _, rfl⟩ [] .nil (fun k hk => nomatch hk) (Nat.zero_le _)
end
end Mine

namespace Mine
theorem dedup_snoc {l : List Int} {k : Int} : dedup (l ++ [k]) = if k ∈ dedup l then dedup l else dedup l ++ [k] := by unfold dedup; rw [List.foldl_append]; rfl
theorem dedup_len (l : List Int) : (dedup l).length ≤ l.length := by
  have : ∀ (l acc : List Int), (l.foldl (fun acc k => if k ∈ acc then acc else acc ++ [k]) acc).length ≤ acc.length + l.length := fun l => by
    induction l with
    | nil => intro acc; simp
    | cons k l ih =>
      intro acc
      rw [List.foldl_cons]
      refine Nat.le_trans (ih _) ?_
      split
      · simp only [List.length_cons]; omega
      · simp only [List.length_append, List.length_cons, List.length_nil]; omega
  have h := this l []
  rw [List.length_nil, Nat.zero_add] at h
  exact h
theorem dedup_nodup (l : List Int) : (dedup l).Nodup := by
  have : ∀ (l acc : List Int), acc.Nodup → (l.foldl (fun acc k => if k ∈ acc then acc else acc ++ [k]) acc).Nodup := fun l => by
    induction l with
    | nil => intro acc h; exact h
    | cons k l ih =>
      intro acc h
      refine ih _ ?_
      dsimp only
      split
      · exact h
      · rename_i hk
        rw [List.nodup_append]
        exact ⟨h, by simp, fun a ha b hb e => hk (by rw [← List.mem_singleton.mp hb, ← e]; exact ha)⟩
  exact this l [] (by simp)
theorem dedup_sub (l : List Int) : ∀ k ∈ dedup l, k ∈ l := by
  have : ∀ (l acc : List Int), ∀ k ∈ l.foldl (fun acc k => if k ∈ acc then acc else acc ++ [k]) acc, k ∈ acc ∨ k ∈ l := fun l => by
    induction l with
    | nil => intro acc k h; exact .inl h
    | cons a l ih =>
      intro acc k h
      rcases ih _ k h with q | q
      · dsimp only at q
        split at q
        · exact .inl q
        · rcases List.mem_append.mp q with q | q
          · exact .inl q
          · exact .inr (by rw [List.mem_singleton.mp q]; exact .head _)
      · exact .inr (.tail _ q)
  intro k hk
  exact (this l [] k hk).resolve_left (fun q => nomatch q)
theorem dedup_pos {l : List Int} (h : 1 ≤ l.length) : 1 ≤ (dedup l).length := by
  match l, h with
  | k :: r, _ =>
    have : ∀ (l acc : List Int), 1 ≤ acc.length → 1 ≤ (l.foldl (fun acc k => if k ∈ acc then acc else acc ++ [k]) acc).length := fun l => by
      induction l with
      | nil => intro acc h; exact h
      | cons a l ih =>
        intro acc h
        refine ih _ ?_
        dsimp only
        split
        · exact h
        · rw [List.length_append]; omega
    exact this r [k] (Nat.le_refl _)
section
variable {w : World} {A : Around} {E : Value → Shared → Prop} {s : Shared} {mg mb : Str → Option Value} {b : Heap} {L : Addr} {m m0 : Loc} {ld F : Ld} {env : Env} {sc : Scope}

set_option maxHeartbeats 2000000 in
/-- plain = []; for one in wishes: .. -/
theorem plain_walk {pc W : Addr} {ov : Option Value} {ks : List Int} {rest : List Stmt} {Q : Flow → Shared → Prop} (r : Room A 3) (e : EnvIs env (lawS w) L) (hcs : env.cells = [(("plain" : Str), pc)]) (z : Z b L m ld s.heap) (hpc : CellIs ld pc ov) (hpn : New b pc) (hW : m "wishes" = some (.ref W)) (hWi : IntsAt ld W ks) (hlen : ks.length ≤ 5)
    (h : ∀ h' tk m' ld' PL, Z b L m' ld' h' → Lo ["one"] m m' → (∀ x o, x ≠ pc → ld x = some o → ld' x = some o) → CellIs ld' pc (some (.ref PL)) → IntsAt ld' PL (dedup ks) → ld PL = none → wpAny (model PP w) A (execs rest env) Q (fun _ _ => False) { s with heap := h', toks := tk }) :
    wpAny (model PP w) A (execs ((buildB w).getD 3 (.Pass default) :: (buildB w).getD 4 (.Pass default) :: rest) env) Q (fun _ _ => False) s := by
  show wpAny _ _ (execs (.Assign [.Name "plain" _] (.List [] _) _ :: .For (.Name "one" _) (.Name "wishes" _) [.If (.Compare (.Name "one" _) [.NotIn] [.Name "plain" _] _) [.Expr (.Call (.Attribute (.Name "plain" _) "append" _) [.Name "one" _] [] _) _] [] _] [] _ :: rest) env) _ _ _
  obtain ⟨oc, hc1, hc2⟩ := hpc
  obtain ⟨wvs, wn, hw1, hw2⟩ := hWi
  refine wpAny_execs_cons (wpAny_Assign_Name (ev_nil z fun PL h₁ hPL hPLn z₁ => st_cell e (by rw [hcs]; rfl) z₁ (ov := ov) ⟨oc, upd_old hPL hc1, hc2⟩ hpn.none fun h₂ l₂ z₂ hc3 k₂ => ?_))
  have hWp : W ≠ pc := IntsAt.neC ⟨wvs, wn, hw1, hw2⟩ ⟨oc, hc1, hc2⟩
  have hPp : PL ≠ pc := fun q => by rw [q, hc1] at hPL; cases hPL
  have hWP : W ≠ PL := fun q => by rw [← q, hw1] at hPL; cases hPL
  have hk : ∀ x o, x ≠ pc → ld x = some o → l₂ x = some o := fun x o q q' => (k₂ x q).trans (upd_old hPL q')
  have hp2 : IntsAt l₂ PL (dedup (ks.take 0)) := ⟨[], 0, (k₂ _ hPp).trans upd_self, .nil⟩
  clear z₁
  refine wpAny_execs_cons (wpAny_For (ev_loc e z₂ hW ?_) (by intro _; rfl))
  refine iter_list r e z₂ (hk _ _ hWp hw1) (fun i m' l' => Lo ["one"] m m' ∧ (∀ x o, x ≠ PL → l₂ x = some o → l' x = some o) ∧ IntsAt l' PL (dedup (ks.take i))) ?_ ?_ ?_ ?_
  · intro ld₁ k; exact ⟨Lo.refl, fun x o _ q => k x o q, hp2.sub k⟩
  · rintro I hI i m₁ l₁ l₃ ⟨j1, j2, j3⟩ k
    refine ⟨j1, fun x o q1 q2 => (k x fun e => by rw [e, hI] at q2; cases q2).trans (j2 x o q1 q2), j3.keep fun o q => (k _ fun e => ?_).trans q⟩
    obtain ⟨_, _, q2, _⟩ := hp2; rw [e, hI] at q2; cases q2
  · rintro I oI i v m₁ lq h₃ tk₃ hI hqI hv ⟨j1, j2, j3⟩ hqx z
    obtain ⟨k, t, rfl, hki⟩ := IntsAre.at hw2 i v (by simpa using hv)
    obtain ⟨pvs, pn, hp3, hp4⟩ := j3
    have htk : ks.take (i + 1) = ks.take i ++ [k] := by rw [List.take_add_one, hki]; rfl
    have hcq : CellIs lq pc (some (.ref PL)) := let ⟨o, q, q'⟩ := hc3; ⟨o, j2 _ _ (Ne.symm hPp) q, q'⟩
    have hlo : Lo ["one"] m (fun y => if y = "one" then some (.int k t) else m₁ y) := fun x hx => (if_neg fun q => hx (by rw [q]; exact .head _)).trans (j1 x hx)
    have hdl := dedup_len (ks.take i)
    rw [List.length_take] at hdl
    refine wpAny_execs_cons (wpAny_If (wpAny_isTrue_Compare1 (ev_loc e z (if_pos rfl) (ev_cell e (by rw [hcs]; rfl) z hcq (notin_ints z hp3 hp4 (wpAny_truthy_bool ?_))))))
    have hPI : I ≠ PL := fun q => by obtain ⟨_, _, q2, _⟩ := hp2; rw [← q, hI] at q2; cases q2
    by_cases hc : k ∈ dedup (ks.take i)
    · rw [if_neg (by rw [decide_eq_false fun q => q hc]; exact Bool.false_ne_true)]
      refine wpAny_execs_nil (wpAny_execs_nil ⟨_, _, _, _, rfl, z, ⟨hlo, j2, ?_⟩, fun _ _ => rfl⟩)
      rw [htk, dedup_snoc, if_pos hc]; exact ⟨pvs, pn, hp3, hp4⟩
    · rw [if_pos (decide_eq_true hc)]
      refine wpAny_execs_cons (ex_flat e (MethodCall_ (ev_cell e (by rw [hcs]; rfl) z hcq (lm_append z hp3 (callWith_method1 (args_cons (ev_loc e z (if_pos rfl) (args_nil ?_))))))))
      refine l_append z hp3 hPLn (by rw [hp4.length]; omega) fun h₄ z₄ => ⟨fun _ q => (nomatch q), wpAny_execs_nil (wpAny_execs_nil ⟨_, _, _, _, rfl, z₄, ⟨hlo, fun x o q1 q2 => (upd_ne q1).trans (j2 x o q1 q2), ?_⟩, fun a ha => ?_⟩)⟩
      · rw [htk, dedup_snoc, if_neg hc]; exact ⟨_, _, upd_self, hp4.append (.cons _ _ .nil)⟩
      · rcases List.mem_cons.mp ha with rfl | ha
        · exact upd_ne hPI
        · rw [List.mem_singleton.mp ha]; exact upd_ne hWP
  · rintro m₁ lq h₃ tk₃ ⟨j1, j2, j3⟩ z
    rw [List.size_toArray, hw2.length, List.take_length] at j3
    exact h _ _ _ _ PL z j1 (fun x o q1 q2 => j2 x o (fun e => by rw [e, hPL] at q2; cases q2) (hk x o q1 q2)) (let ⟨o, q, q'⟩ := hc3; ⟨o, j2 _ _ (Ne.symm hPp) q, q'⟩) j3 hPL

set_option maxHeartbeats 2000000 in
/-- contrary = sorted([-one for one in plain]) -/
theorem contra_walk {pc PL : Addr} {pls : List Int} {Q : Flow → Shared → Prop} (C : Cx (KK w) mg mb b) (r : Room A 3) (e : EnvIs env (lawS w) L) (hcs : env.cells = [(("plain" : Str), pc)]) (z : Z b L m ld s.heap) (hpc : CellIs ld pc (some (.ref PL))) (hP : IntsAt ld PL pls) (hlen : pls.length ≤ 5)
    (h : ∀ h' tk ld' CT cns, Z b L (fun y => if y = "contrary" then some (.ref CT) else m y) ld' h' → Sub ld ld' → IntsAt ld' CT cns → Contra cns pls → ld CT = none → Q .next { s with heap := h', toks := tk }) :
    wpAny (model PP w) A (exec ((buildB w).getD 5 (.Pass default)) env) Q (fun _ _ => False) s := by
  show wpAny _ _ (exec (.Assign [.Name "contrary" _] (.Call (.Name "sorted" _) [.ListComp (.UnaryOp .USub (.Name "one" _) _) [⟨.Name "one" _, .Name "plain" _, [], 0⟩] _ _] [] _) _) env) _ _ _
  obtain ⟨pvs, pn, hp1, hp2⟩ := hP
  refine wpAny_Assign_Name (Call_ (ev_bi e C z rfl boot_sorted (PyProof.Rows.callWith_builtin1 (args_cons (lc (cl := []) hcs rfl (ev_cell e (by rw [hcs]; rfl) z hpc ?_))))))
  refine lc_ints (fun _ => true) (fun k => -k) r e z hp1 hp2 (by rw [hp2.length]; omega) ?_ ?_ ?_
  · intro C' k t m₁ lq h₁ tk₁ _ _ eC z'
    exact wpAny_tests_nil ⟨rfl, _, _, rfl, z'⟩
  · intro C' k t m₁ lq h₁ tk₁ eC z'
    exact wpAny_UnaryOp (ev_loc eC z' (v := .int k t) (if_pos rfl) (neg_int ⟨_, _, rfl, rfl⟩))
  · intro D C' ys lq mC h₁ tk₁ hD hDn hs hys hqD z' hC' hLC hns
    refine post_plain z' hC' hLC hns fun h₂ z₂ => args_nil ?_
    rw [List.filter_eq_self.mpr fun _ _ => rfl] at hys
    refine call_sorted z₂ hqD hys (by rw [hys.length, List.length_map]; omega) fun S1 h₃ us ns e1 hS1 hS1n z₃ i1 p1 q1 => st_loc e z₃ fun h₄ z₄ => ?_
    exact h _ _ _ S1 ns z₄ (fun x o q => upd_old hS1 (hs _ _ q)) ⟨_, _, upd_self, i1⟩ ⟨p1, q1⟩ (none_of hs hS1)
end
end Mine

namespace Mine
section
variable {w : World} {A : Around} {E : Value → Shared → Prop} {s : Shared} {mg mb : Str → Option Value} {b : Heap} {L : Addr} {m m0 : Loc} {ld F : Ld} {env : Env} {sc : Scope} {c d l pc PL CT : Addr} {v1 v2 : Value} {pls cns : List Int}

set_option maxHeartbeats 2000000 in
/-- if row[:] != plain or row[0] != plain[0] or len(row) != len(plain) -/
theorem chk6 {Q : Flow → Shared → Prop} (C : Cx (KK w) mg mb b) (r : Room A 3) (e : EnvIs env (lawS w) L) (hcs : env.cells = [(("plain" : Str), pc)]) (z : Z b L m ld s.heap) (hpc : CellIs ld pc (some (.ref PL))) (hP : IntsAt ld PL pls) (hl1 : 1 ≤ pls.length) (hl5 : pls.length ≤ 5) (hrow : m "row" = some (.ref c)) (hcl : Cl ld c d l v1 v2 pls)
    (h : ∀ h' tk, Z b L m ld h' → Q .next { s with heap := h', toks := tk }) : wpAny (model PP w) A (exec ((buildB w).getD 6 (.Pass default)) env) Q (fun _ _ => False) s := by
  show wpAny _ _ (exec (.If (.BoolOp .Or [.Compare (.Subscript (.Name "row" _) (.Slice none none none _) _) [.NotEq] [.Name "plain" _] _, .Compare (.Subscript (.Name "row" _) (.Constant (.int 0) _ _) _) [.NotEq] [.Subscript (.Name "plain" _) (.Constant (.int 0) _ _) _] _,
    .Compare (.Call (.Name "len" _) [.Name "row" _] [] _) [.NotEq] [.Call (.Name "len" _) [.Name "plain" _] [] _] _] _) _ [] _) env) _ _ _
  obtain ⟨pvs, pn, hp1, hp2⟩ := hP
  obtain ⟨g1, g2, g3, t1, t2, t3, n, hd⟩ := id hcl.dict
  obtain ⟨x, xs, rfl⟩ : ∃ x xs, pls = x :: xs := by
    match pls, hl1 with
    | x :: xs, _ => exact ⟨x, xs, rfl⟩
  refine wpAny_If (isTrue_or (wpAny_isTrue_Compare1 (ev_cut (k := none) e C (r.le (by omega)) z hrow hcl (by omega) (fun Q' hQ => evalPart_none_step (hQ _ _ .none)) fun D h₁ tk₁ vs hD z₁ hi => ?_)))
  have hi : IntsAre vs (x :: xs) := hi
  refine ev_cell e (by rw [hcs]; rfl) z₁ (let ⟨o, q, q'⟩ := hpc; ⟨o, upd_old hD q, q'⟩) (ne_intsK (z₁.isList upd_self) hi (z₁.isList (upd_old hD hp1)) hp2 r.unit64 (wpAny_truthy_bool ?_))
  have z := z.drop z₁ hD
  rw [decide_eq_true (rfl : (x :: xs : List Int) = x :: xs), if_neg (by decide)]
  refine isTrue_or (wpAny_isTrue_Compare1 (Subscript_ (ev_loc e z hrow (wpAny_Constant_int (row_sub (s := { s with heap := h₁, toks := _ }) C z hcl ?_)))))
  refine clitem_spec (s := { s with heap := h₁, toks := _ }) C z.bs (r.le (by omega) : Room A 2).in1 (hcl.mono fun _ _ q => z.led _ _ q) (v := x) rfl (by decide) (by decide) fun h₂ tk₂ u led => ?_
  have z := z.call0 led
  refine Subscript_ (ev_cell e (by rw [hcs]; rfl) z hpc (wpAny_Constant_int (it_int z hp1 hp2 (v := x) rfl (by decide) (by decide) fun t4 => ne_int (wpAny_truthy_bool ?_))))
  rw [if_neg (by simp)]
  refine isTrue_or (wpAny_isTrue_Compare1 (Call_ (ev_bi e C z rfl boot_len (PyProof.Rows.callWith_builtin1 (args_cons (ev_loc e z hrow (args_nil ?_)))))))
  refine PySem.W.len_K z.F C.X (inst_at z hcl.inst hd) rfl rfl ?_
  refine cllen_spec C z.bs (r.le (by omega) : Room A 2).in1 (hcl.mono fun _ _ q => z.led _ _ q) (by omega) fun h₃ tk₃ u led => ?_
  have z := z.call0 led
  refine ⟨⟨by omega, by omega⟩, Call_ (ev_bi e C z rfl boot_len (PyProof.Rows.callWith_builtin1 (args_cons (ev_cell e (by rw [hcs]; rfl) z hpc (args_nil ?_)))))⟩
  refine call_len_list (z.isList hp1) (by rw [List.size_toArray, hp2.length]; omega) (ne_int (wpAny_truthy_bool ?_))
  rw [List.size_toArray, hp2.length, if_neg (by simp)]
  refine isTrue_or_nil ?_
  rw [if_neg (by decide)]
  exact wpAny_execs_nil (h _ _ z)

set_option maxHeartbeats 2000000 in
/-- if row.learned is not .. or row.rule != place or _law_ordered(row) -/
theorem chk7 {i : Nat} {tp : Tok} {p : Program} {loose : List Str} {mean : ExcName → Option Value} {Q : Flow → Shared → Prop} (C : Cx (KK w) mg mb b) (T : Top p loose mean mg mb b) (r : Room A 3) (e : EnvIs env (lawS w) L) (hef : env.frame = some L) (hfr : A.frames = some [env]) (z : Z b L m ld s.heap) (hrow : m "row" = some (.ref c)) (hpl : m "place" = some (.int i tp))
    (hcl : Cl ld c d l (.bool ((i : Int).fmod 2 == 1)) (.int i tp) pls) (h : ∀ h' tk, Z b L m ld h' → Q .next { s with heap := h', toks := tk }) : wpAny (model PP w) A (exec ((buildB w).getD 7 (.Pass default)) env) Q (fun _ _ => False) s := by
  show wpAny _ _ (exec (.If (.BoolOp .Or [.Compare (.Attribute (.Name "row" _) "learned" _) [.IsNot] [.Compare (.BinOp (.Name "place" _) .Mod (.Constant (.int 2) _ _) _) [.Eq] [.Constant (.int 1) _ _] _] _, .Compare (.Attribute (.Name "row" _) "rule" _) [.NotEq] [.Name "place" _] _, .Call (.Name "_law_ordered" _) [.Name "row" _] [] _] _) _ [] _) env) _ _ _
  obtain ⟨g1, g2, g3, t1, t2, t3, n, hd⟩ := id hcl.dict
  refine wpAny_If (isTrue_or (wpAny_isTrue_Compare1 (Attribute_Name_ (ev_loc e z hrow (ga_own C z hcl.inst hd rfl rfl rfl rfl rfl ?_)))))
  refine wpAny_Compare1 (wpAny_BinOp (ev_loc e z hpl (wpAny_Constant_int (mod_int' (by decide) (wpAny_Constant_int (eq_int (wpAny_isNot_plain rfl (wpAny_truthy_bool ?_))))))))
  have hb : ∀ c : Bool, ¬ (!(Value.bool c == Value.bool c)) = true := fun c => by cases c <;> decide
  dsimp only
  rw [if_neg (hb _)]
  refine isTrue_or (wpAny_isTrue_Compare1 (Attribute_Name_ (ev_loc e z hrow (ga_own C z hcl.inst hd rfl rfl rfl rfl rfl (ev_loc e z hpl (ne_int (wpAny_truthy_bool ?_)))))))
  rw [if_neg (by simp)]
  refine isTrue_or (isTrue_plain (Call_ (ev_glob e C z rfl (cw_K C rfl (args_cons (ev_loc e z hrow (args_nil ⟨z.stays, ?_⟩)))))))
  refine ordered_spec C T (r.le (by omega)) e hef hfr z hcl.inst hd fun h₁ tk₁ z => wpAny_truthy_bool ?_
  rw [if_neg (by decide)]
  refine isTrue_or_nil ?_
  rw [if_neg (by decide)]
  exact wpAny_execs_nil (h _ _ z)

set_option maxHeartbeats 2000000 in
/-- if sorted(row.calculate_reason()) != contrary -/
theorem chk8 {Q : Flow → Shared → Prop} (C : Cx (KK w) mg mb b) (r : Room A 3) (e : EnvIs env (lawS w) L) (z : Z b L m ld s.heap) (hl5 : pls.length ≤ 5) (hrow : m "row" = some (.ref c)) (hcl : Cl ld c d l v1 v2 pls) (hct : m "contrary" = some (.ref CT)) (hC : IntsAt ld CT cns) (hcc : Contra cns pls)
    (h : ∀ h' tk, Z b L m ld h' → Q .next { s with heap := h', toks := tk }) : wpAny (model PP w) A (exec ((buildB w).getD 8 (.Pass default)) env) Q (fun _ _ => False) s := by
  show wpAny _ _ (exec (.If (.Compare (.Call (.Name "sorted" _) [.Call (.Attribute (.Name "row" _) "calculate_reason" _) [] [] _] [] _) [.NotEq] [.Name "contrary" _] _) _ [] _) env) _ _ _
  obtain ⟨g1, g2, g3, t1, t2, t3, n, hd⟩ := id hcl.dict
  obtain ⟨cvs, cn, hc1, hc2⟩ := hC
  refine wpAny_If (wpAny_isTrue_Compare1 (Call_ (ev_bi e C z rfl boot_sorted (PyProof.Rows.callWith_builtin1 (args_cons (MethodCall_ (ev_loc e z hrow (gm_inst C z hcl.inst hd rfl rfl rfl rfl (cw_K0 C z rfl ?_)))))))))
  refine reason_spec (u := none) (v := .none) C z.bs (r.le (by omega)) (hcl.mono fun _ _ q => z.led _ _ q) (by omega) rfl (.inl ⟨rfl, rfl⟩) fun h₁ tk₁ D ys ld' led hk hD0 hDn hD hys => args_nil ?_
  have z₁ : Z b L m (upd ld D (lstO ys)) h₁ := z.pushed hD0 hDn (fun a o q => led _ _ (hk _ _ q)) (led _ _ hD)
  have hDl : ld D = none := none_of (fun x o => z.led x o) hD0
  have hr : reasonOf pls none = pls.map fun k => -k := by unfold reasonOf; rw [List.filter_eq_self.mpr (show ∀ a ∈ pls, neU none a = true from fun _ _ => rfl)]
  rw [hr] at hys
  refine call_sorted z₁ upd_self hys (by rw [hys.length, List.length_map]; omega) fun S1 h₂ us ns e1 hS1 hS1n z₂ i1 p1 q1 => ?_
  have zz := z.drop (z₁.drop z₂ hS1) hDl
  refine ev_loc e zz hct (ne_intsK (z₂.isList upd_self) i1 (zz.isList hc1) hc2 r.unit64 (wpAny_truthy_bool ?_))
  rw [decide_eq_true (sorted_unique p1 (.refl cns) hcc.1.symm q1 hcc.2), if_neg (by decide)]
  exact wpAny_execs_nil (h _ _ zz)
end
end Mine

namespace Mine
section
variable {w : World} {A : Around} {E : Value → Shared → Prop} {s : Shared} {mg mb : Str → Option Value} {b : Heap} {L : Addr} {m m0 : Loc} {ld F : Ld} {env : Env} {sc : Scope} {c d l pc PL CT : Addr} {v1 v2 : Value} {pls cns : List Int}

/-- -plain[-1] -/
theorem ev_neglast {x0 : Int} {t0 : Tok} {vs : List Value} {pn k1 : Nat} {p1 p2 p3 p4 p5 : Pos} {Q : Value → Shared → Prop} (e : EnvIs env sc L) (hce : env.cells.lookup ("plain" : Str) = some pc) (z : Z b L m ld s.heap) (hpc : CellIs ld pc (some (.ref PL))) (hP : ld PL = some (listOf (vs ++ [Value.int x0 t0]).toArray pn))
    (h : ∀ u tk, Q (.int (-x0) u) { s with toks := tk }) (hl : sc.names.lookup ("plain" : Str) = some .cell := by rfl) :
    wpAny (model PP w) A (eval (.UnaryOp .USub (.Subscript (.Name "plain" p1) (.UnaryOp .USub (.Constant (.int 1) k1 p2) p3) p4) p5) env) Q E s :=
  wpAny_UnaryOp (Subscript_ (ev_cell e hce z hpc (wpAny_UnaryOp (wpAny_Constant_int (neg_int (it_last z hP (neg_int (h _ _)))))) hl))

set_option maxHeartbeats 2000000 in
theorem chk9 {Q : Flow → Shared → Prop} (C : Cx (KK w) mg mb b) (r : Room A 3) (e : EnvIs env (lawS w) L) (hcs : env.cells = [(("plain" : Str), pc)]) (z : Z b L m ld s.heap) (hpc : CellIs ld pc (some (.ref PL))) (hP : IntsAt ld PL pls) (hl1 : 1 ≤ pls.length) (hl5 : pls.length ≤ 5) (hrow : m "row" = some (.ref c)) (hcl : Cl ld c d l v1 v2 pls)
    (h : ∀ h' tk, Z b L m ld h' → Q .next { s with heap := h', toks := tk }) : wpAny (model PP w) A (exec ((buildB w).getD 9 (.Pass default)) env) Q (fun _ _ => False) s := by
  show wpAny _ _ (exec (.If (.Compare (.Call (.Name "sorted" _) [.Call (.Attribute (.Name "row" _) "calculate_reason" _) [.UnaryOp .USub (.Subscript (.Name "plain" _) (.UnaryOp .USub (.Constant (.int 1) _ _) _) _) _] [] _] [] _) [.NotEq]
    [.Call (.Name "sorted" _) [.ListComp (.UnaryOp .USub (.Name "one" _) _) [⟨.Name "one" _, .Name "plain" _, [_], 0⟩] _ _] [] _] _) _ [] _) env) _ _ _
  obtain ⟨g1, g2, g3, t1, t2, t3, n, hd⟩ := id hcl.dict
  obtain ⟨pvs, pn, hp1, hp2⟩ := hP
  have hlen := hp2.length
  obtain ⟨vs0, x0, t0, rfl⟩ : ∃ vs0 x0 t0, pvs = vs0 ++ [Value.int x0 t0] := by
    have hne : pvs ≠ [] := fun q => by rw [q] at hlen; simp at hlen; omega
    obtain ⟨k, t, q, _⟩ := IntsAre.at hp2 (pvs.length - 1) (pvs.getLast hne) (by rw [List.getLast_eq_getElem, List.getElem?_eq_getElem])
    exact ⟨pvs.dropLast, k, t, by rw [← q]; exact (List.dropLast_concat_getLast hne).symm⟩
  refine wpAny_If (wpAny_isTrue_Compare1 (Call_ (ev_bi e C z rfl boot_sorted (PyProof.Rows.callWith_builtin1 (args_cons (MethodCall_ (ev_loc e z hrow (gm_inst C z hcl.inst hd rfl rfl rfl rfl ?_))))))))
  refine cw_K C rfl (args_cons (ev_neglast e (by rw [hcs]; rfl) z hpc hp1 fun u1 tk1 => args_nil ⟨z.stays, ?_⟩))
  refine reason_spec (s := { s with toks := tk1 }) (u := some (-x0)) C z.bs (r.le (by omega)) (hcl.mono fun _ _ q => z.led _ _ q) (by omega) ⟨u1, rfl⟩ (.inr rfl) fun h₁ tk₁ D ys ld' led hk hD0 hDn hD hys => args_nil ?_
  have z₁ : Z b L m (upd ld D (lstO ys)) h₁ := z.pushed (s := { s with toks := tk1 }) hD0 hDn (fun a o q => led _ _ (hk _ _ q)) (led _ _ hD)
  have hDl : ld D = none := none_of (fun x o => z.led x o) hD0
  have hrl : (reasonOf pls (some (-x0))).length ≤ 5 := by
    rw [reasonOf, List.length_map]
    exact Nat.le_trans (List.length_filter_le ..) hl5
  refine call_sorted z₁ upd_self hys (by rw [hys.length]; omega) fun S1 h₂ us ns e1 hS1 hS1n z₂ i1 p1 q1 => ?_
  have up : Sub ld (upd (upd ld D (lstO ys)) S1 (listOf us.toArray e1)) := fun x o q => upd_old hS1 (upd_old hDl q)
  have hS1u : upd (upd ld D (lstO ys)) S1 (listOf us.toArray e1) S1 = some (listOf us.toArray e1) := upd_self
  clear z₁
  generalize upd (upd ld D (lstO ys)) S1 (listOf us.toArray e1) = l2 at z₂ up hS1u
  refine Call_ (ev_bi e C z₂ rfl boot_sorted (PyProof.Rows.callWith_builtin1 (args_cons (lc hcs rfl (ev_cell e (by rw [hcs]; rfl) z₂ (hpc.sub up) ?_)))))
  refine lc_ints (neU (some (-x0))) (fun k => -k) r e z₂ (up _ _ hp1) hp2 (by omega) ?_ ?_ ?_
  · intro C' k t m₁ lq h₃ tk₃ hs hkn eC z'
    refine wpAny_tests_one (wpAny_isTrue_Compare1 (ev_loc eC z' (v := .int k t) (if_pos rfl) (ev_neglast eC rfl z' (hpc.sub fun x o q => hs _ _ (up _ _ q)) (hs _ _ (up _ _ hp1)) fun u2 tk2 => ne_int (wpAny_truthy_bool ⟨rfl, _, _, rfl, z'⟩))))
  · intro C' k t m₁ lq h₃ tk₃ eC z'
    exact wpAny_UnaryOp (ev_loc eC z' (v := .int k t) (if_pos rfl) (neg_int ⟨_, _, rfl, rfl⟩))
  · intro D2 C' ys2 lq mC h₃ tk₃ hD2 hD2n hs hys2 hqD z' hC' hLC hns
    refine post_plain z' hC' hLC hns fun h₄ z₄ => args_nil ?_
    have hys2 : IntsAre ys2 (reasonOf pls (some (-x0))) := hys2
    refine call_sorted z₄ hqD hys2 (by rw [hys2.length]; omega) fun S2 h₅ us2 ns2 e2 hS2 hS2n z₅ i2 p2 q2 => ?_
    refine ne_intsK (z₅.isList (upd_old hS2 (hs _ _ hS1u))) i1 (z₅.isList upd_self) i2 r.unit64 (wpAny_truthy_bool ?_)
    rw [decide_eq_true (sorted_unique p1 p2 (.refl _) q1 q2), if_neg (by decide)]
    exact wpAny_execs_nil (h _ _ (z₅.mono (fun x o q => upd_old hS2 (hs _ _ (up _ _ q))) z.base))

set_option maxHeartbeats 2000000 in
/-- rows.append([row, plain, contrary, given, wishes]) -/
theorem entry_walk {RD W G : Addr} {its : List Value} {n : Nat} {Q : Flow → Shared → Prop} (e : EnvIs env (lawS w) L) (hcs : env.cells = [(("plain" : Str), pc)]) (z : Z b L m ld s.heap) (hpc : CellIs ld pc (some (.ref PL))) (hrow : m "row" = some (.ref c)) (hct : m "contrary" = some (.ref CT)) (hg : m "given" = some (.ref G)) (hw : m "wishes" = some (.ref W)) (hr : m "rows" = some (.ref RD))
    (hRD : ld RD = some (listOf its.toArray n)) (hRn : New b RD) (hlen : its.length ≤ 100)
    (h : ∀ h' tk EA', ld EA' = none → Z b L m (upd (upd ld EA' (listOf [Value.ref c, .ref PL, .ref CT, .ref G, .ref W].toArray 0)) RD (listOf (its ++ [Value.ref EA']).toArray (n + 1))) h' → Q .next { s with heap := h', toks := tk }) :
    wpAny (model PP w) A (exec ((buildB w).getD 10 (.Pass default)) env) Q (fun _ _ => False) s := by
  show wpAny _ _ (exec (.Expr (.Call (.Attribute (.Name "rows" _) "append" _) [.List [.Name "row" _, .Name "plain" _, .Name "contrary" _, .Name "given" _, .Name "wishes" _] _] [] _) _) env) _ _ _
  refine ex_flat e (MethodCall_ (ev_loc e z hr (lm_append z hRD (callWith_method1 (args_cons (ev_list (b := b) (L := L) (args_cons (ev_loc e z hrow (args_cons (ev_cell e (by rw [hcs]; rfl) z hpc (args_cons (ev_loc e z hct (args_cons (ev_loc e z hg (args_cons (ev_loc e z hw (args_nil ⟨_, _, z, Nat.le_add_left 5 9995, fun D h₁ hD hDn z₁ => args_nil ?_⟩)))))))))))))))))
  refine l_append z₁ (upd_old hD hRD) hRn (by omega) fun h₂ z₂ => ⟨fun _ q => (nomatch q), h _ _ D hD z₂⟩
end
end Mine

namespace Mine
abbrev buildN : List Str := ["place", "number", "wishes", "given", "row", "one", "contrary"]
def EA.st (a : EA) : List Addr := [a.e, a.c, a.d, a.pl, a.ct, a.gv, a.ws]
theorem Cl.keep {ld ld' : Ld} {c d l : Addr} {v1 v2 : Value} {lits : List Int} (x : Cl ld c d l v1 v2 lits) (h : ∀ a ∈ [c, d, l], ∀ o, ld a = some o → ld' a = some o) : Cl ld' c d l v1 v2 lits where
  inst := h _ (by simp) _ x.inst
  dict := let ⟨h1, h2, h3, t1, t2, t3, n, q⟩ := x.dict; ⟨h1, h2, h3, t1, t2, t3, n, h _ (by simp) _ q⟩
  list := let ⟨vs, n, q, r⟩ := x.list; ⟨vs, n, h _ (by simp) _ q, r⟩
section
variable {w : World} {A : Around} {E : Value → Shared → Prop} {s : Shared} {mg mb : Str → Option Value} {b : Heap} {L : Addr} {m m0 : Loc} {ld F : Ld} {env : Env} {sc : Scope}

set_option maxHeartbeats 4000000 in
/-- a turn of the loop that builds the rows -/
theorem build_turn {nu : Int} {i : Nat} {tn tp : Tok} {pc RD : Addr} {ov : Option Value} {its : List Value} {n : Nat} {p : Program} {loose : List Str} {mean : ExcName → Option Value} {Q : Flow → Shared → Prop} (C : Cx (KK w) mg mb b) (T : Top p loose mean mg mb b) (r : Room A 4) (e : EnvIs env (lawS w) L) (hcs : env.cells = [(("plain" : Str), pc)]) (hef : env.frame = some L) (hfr : A.frames = some [env])
    (z : Z b L m ld s.heap) (hpc : CellIs ld pc ov) (hpn : New b pc) (hnu : m "number" = some (.int nu tn)) (hpl : m "place" = some (.int i tp)) (hr : m "rows" = some (.ref RD)) (hRD : ld RD = some (listOf its.toArray n)) (hRn : New b RD) (hlen : its.length ≤ 100)
    (h : ∀ h' tk m' ld' a pls n' ov', Z b L m' ld' h' → Lo buildN m m' → (∀ x o, x ≠ RD → x ≠ pc → ld x = some o → ld' x = some o) → ld' RD = some (listOf (its ++ [Value.ref a.e]).toArray n') → CellIs ld' pc ov' → Ent0 ld' a pls → IntsAt ld' a.l pls → New b a.l → 1 ≤ pls.length → pls.length ≤ 5 → Wish pls → (∀ x ∈ a.l :: a.st, ld x = none) → (∀ x ∈ a.st, x ≠ a.l) →
      Q .next { s with heap := h', toks := tk }) :
    wpAny (model PP w) A (execs (buildB w) env) Q (fun _ _ => False) s := by
  show wpAny _ _ (execs ((buildB w).getD 0 (.Pass default) :: (buildB w).getD 1 (.Pass default) :: (buildB w).getD 2 (.Pass default) :: (buildB w).getD 3 (.Pass default) :: (buildB w).getD 4 (.Pass default) :: (buildB w).getD 5 (.Pass default) :: (buildB w).getD 6 (.Pass default) ::
    (buildB w).getD 7 (.Pass default) :: (buildB w).getD 8 (.Pass default) :: (buildB w).getD 9 (.Pass default) :: (buildB w).getD 10 (.Pass default) :: []) env) _ _ _
  obtain ⟨oc, hc1, hc2⟩ := hpc
  have npc : ∀ x, ld x = none → x ≠ pc := fun x q e => by rw [e, hc1] at q; cases q
  have nRD : ∀ x, ld x = none → x ≠ RD := fun x q e => by rw [e, hRD] at q; cases q
  have hRp : RD ≠ pc := ne_of_obj hRD hc1 (by rw [hc2]; simp)
  refine wpAny_execs_cons (wishes_walk C (r.le (by omega)) e z hnu hpl fun h₁ tk₁ l₁ W ks z₁ k₁ hW hWs h2 h5 hW0 => ?_)
  dsimp only
  refine given_walk (s := { s with heap := h₁, toks := tk₁ }) C (r.le (by omega)) e z₁ hpl rfl hW h5 fun h₂ tk₂ m₂ l₂ G c d l z₂ lo₂ k₂ hg₂ hr₂ hG hcl hfr2 hGl hln => ?_
  have fr2 : ∀ x ∈ [G, c, d, l], ld x = none := fun x hx => none_of k₁ (hfr2 x hx)
  have lo2 : ∀ {x : Str} {v : Option Value}, m x = v → x ∉ buildN → m₂ x = v := fun {x v} q hx => ((lo₂ _ fun q => hx (by revert q; exact (by decide : ∀ y ∈ (["given", "row"] : List Str), y ∈ buildN) x)).trans (if_neg fun q => hx (by rw [q]; decide))).trans q
  have hpl2 : m₂ "place" = some (.int i tp) := (lo₂ _ (by decide)).trans hpl
  have hw2 : m₂ "wishes" = some (.ref W) := (lo₂ _ (by decide)).trans rfl
  have hrr2 : m₂ "rows" = some (.ref RD) := lo2 hr (by decide)
  refine plain_walk (s := { s with heap := h₂, toks := tk₂ }) (r.le (by omega)) e hcs z₂ ⟨oc, k₂ _ _ (k₁ _ _ hc1), hc2⟩ hpn hw2 (hW.sub k₂) h5 fun h₃ tk₃ m₃ l₃ PL z₃ lo₃ k₃ hpc₃ hP hPL => ?_
  have hPL0 : ld PL = none := none_of k₁ (none_of k₂ hPL)
  have hd5 : (dedup ks).length ≤ 5 := Nat.le_trans (dedup_len ks) h5
  have hd1 : 1 ≤ (dedup ks).length := dedup_pos (by omega)
  refine wpAny_execs_cons (contra_walk (s := { s with heap := h₃, toks := tk₃ }) C (r.le (by omega)) e hcs z₃ hpc₃ hP hd5 fun h₄ tk₄ l₄ CT cns z₄ k₄ hCT hC hCT0 => ?_)
  dsimp only
  have k34 : ∀ x o, x ≠ pc → l₂ x = some o → l₄ x = some o := fun x o q q' => k₄ _ _ (k₃ x o q q')
  have kall : ∀ x o, x ≠ pc → ld x = some o → l₄ x = some o := fun x o q q' => k34 x o q (k₂ _ _ (k₁ _ _ q'))
  have hcl4 := hcl.keep fun a ha o => k34 a o (npc _ (fr2 a (.tail _ ha)))
  have hCTn : ld CT = none := by
    by_cases q : CT = pc
    · obtain ⟨o, q1, _⟩ := hpc₃; rw [q, q1] at hCT0; cases hCT0
    · cases q' : ld CT with
      | none => rfl
      | some o => rw [k₃ _ _ q (k₂ _ _ (k₁ _ _ q'))] at hCT0; cases hCT0
  have hpc4 := hpc₃.sub k₄
  have hP4 := hP.sub k₄
  have hrow : (fun y : Str => if y = "contrary" then some (Value.ref CT) else m₃ y) "row" = some (.ref c) := (lo₃ _ (by decide)).trans hr₂
  have hpl4 : (fun y : Str => if y = "contrary" then some (Value.ref CT) else m₃ y) "place" = some (.int i tp) := (lo₃ _ (by decide)).trans hpl2
  have hg4 : (fun y : Str => if y = "contrary" then some (Value.ref CT) else m₃ y) "given" = some (.ref G) := (lo₃ _ (by decide)).trans hg₂
  have hw4 : (fun y : Str => if y = "contrary" then some (Value.ref CT) else m₃ y) "wishes" = some (.ref W) := (lo₃ _ (by decide)).trans hw2
  have hr4 : (fun y : Str => if y = "contrary" then some (Value.ref CT) else m₃ y) "rows" = some (.ref RD) := (lo₃ _ (by decide)).trans hrr2
  have hct4 : (fun y : Str => if y = "contrary" then some (Value.ref CT) else m₃ y) "contrary" = some (.ref CT) := if_pos rfl
  have lo4 : Lo buildN m (fun y : Str => if y = "contrary" then some (Value.ref CT) else m₃ y) := fun x hx => (if_neg fun q => hx (by rw [q]; decide)).trans ((lo₃ _ fun q => hx (by rw [List.mem_singleton.mp q]; decide)).trans (lo2 rfl hx))
  generalize (fun y : Str => if y = "contrary" then some (Value.ref CT) else m₃ y) = m₄ at *
  clear lo2 hrr2 hw2 hpl2 lo₃ z₁ z₂ z₃
  refine wpAny_execs_cons (chk6 (s := { s with heap := h₄, toks := tk₄ }) C (r.le (by omega)) e hcs z₄ hpc4 hP4 hd1 hd5 hrow hcl4 fun h₅ tk₅ z => ?_)
  refine wpAny_execs_cons (chk7 (s := { s with heap := h₅, toks := tk₅ }) C T (r.le (by omega)) e hef hfr z hrow hpl4 hcl4 fun h₆ tk₆ z => ?_)
  refine wpAny_execs_cons (chk8 (s := { s with heap := h₆, toks := tk₆ }) C (r.le (by omega)) e z hd5 hrow hcl4 hct4 hCT hC fun h₇ tk₇ z => ?_)
  refine wpAny_execs_cons (chk9 (s := { s with heap := h₇, toks := tk₇ }) C (r.le (by omega)) e hcs z hpc4 hP4 hd1 hd5 hrow hcl4 fun h₈ tk₈ z => ?_)
  refine wpAny_execs_cons (entry_walk (s := { s with heap := h₈, toks := tk₈ }) e hcs z hpc4 hrow hct4 hg4 hw4 hr4 (kall _ _ hRp hRD) hRn hlen fun h₉ tk₉ ee hee z => ?_)
  have hee0 : ld ee = none := by
    by_cases q : ee = pc
    · obtain ⟨o, q1, _⟩ := hpc4; rw [q, q1] at hee; cases hee
    · cases q' : ld ee with
      | none => rfl
      | some o => rw [kall _ _ q q'] at hee; cases hee
  -- the last ledger
  have up : ∀ x o, x ≠ RD → l₄ x = some o → upd (upd l₄ ee (listOf [Value.ref c, .ref PL, .ref CT, .ref G, .ref W].toArray 0)) RD (listOf (its ++ [Value.ref ee]).toArray (n + 1)) x = some o := fun x o q q' => (upd_ne q).trans (upd_old hee q')
  have hent : upd (upd l₄ ee (listOf [Value.ref c, .ref PL, .ref CT, .ref G, .ref W].toArray 0)) RD (listOf (its ++ [Value.ref ee]).toArray (n + 1)) ee = some (listOf [Value.ref c, .ref PL, .ref CT, .ref G, .ref W].toArray 0) := (upd_ne (nRD _ hee0)).trans upd_self
  have hlast : upd (upd l₄ ee (listOf [Value.ref c, .ref PL, .ref CT, .ref G, .ref W].toArray 0)) RD (listOf (its ++ [Value.ref ee]).toArray (n + 1)) RD = some (listOf (its ++ [Value.ref ee]).toArray (n + 1)) := upd_self
  generalize upd (upd l₄ ee (listOf [Value.ref c, .ref PL, .ref CT, .ref G, .ref W].toArray 0)) RD (listOf (its ++ [Value.ref ee]).toArray (n + 1)) = l₅ at z up hent hlast
  have hcl5 := hcl4.keep fun a ha o => up a o (nRD _ (fr2 a (.tail _ ha)))
  obtain ⟨g1, g2, g3, t1, t2, t3, nn, hd⟩ := hcl5.dict
  obtain ⟨pco, q1, q2⟩ := hpc4
  refine wpAny_execs_nil (h _ _ _ _ ⟨ee, c, d, l, PL, CT, G, W⟩ (dedup ks) (n + 1) _ z lo4 (fun x o q1 q2 q3 => up x o q1 (kall x o q2 q3)) hlast ⟨pco, up _ _ (Ne.symm hRp) q1, q2⟩ ⟨hent, hcl5.inst, ⟨g1, g2, g3, t1, t2, t3, _, _, nn, hd⟩, hP4.keep fun o => up _ _ (nRD _ hPL0), ⟨cns, hCT.keep fun o => up _ _ (nRD _ hCTn), hC⟩,
    ⟨ks, hG.keep fun o q => up _ _ (nRD _ (fr2 _ (.head _))) (k34 _ _ (npc _ (fr2 _ (.head _))) q), (hW.sub k₂).keep fun o q => up _ _ (nRD _ hW0) (k34 _ _ (npc _ hW0) q), by omega⟩, dedup_nodup ks, by omega⟩ hcl5.list hln hd1 hd5 (fun k hk => hWs k (dedup_sub ks k hk)) (fun x hx => ?_) fun x hx => ?_)
  · simp only [EA.st, List.mem_cons, List.not_mem_nil, or_false] at hx
    rcases hx with rfl | rfl | rfl | rfl | rfl | rfl | rfl | rfl
    · exact fr2 _ (by simp)
    · exact hee0
    · exact fr2 _ (by simp)
    · exact fr2 _ (by simp)
    · exact hPL0
    · exact hCTn
    · exact fr2 _ (by simp)
    · exact hW0
  · obtain ⟨lvs, lnn, hl2, _⟩ := hcl.list
    obtain ⟨_, _, _, _, _, _, _, hd2⟩ := hcl.dict
    obtain ⟨_, _, hl4, _⟩ := hcl4.list
    obtain ⟨_, _, hW1, _⟩ := hW
    show x ≠ l
    simp only [EA.st, List.mem_cons, List.not_mem_nil, or_false] at hx
    rcases hx with rfl | rfl | rfl | rfl | rfl | rfl | rfl
    · exact fun q => by rw [q, hl4] at hee; cases hee
    · exact ne_of_cls hcl.inst hl2 (by simp)
    · exact ne_of_cls hd2 hl2 (by simp)
    · exact fun q => by rw [q, hl2] at hPL; cases hPL
    · exact fun q => by
        obtain ⟨_, _, hl3, _⟩ := (hcl.keep fun a ha o => k₃ a o (npc _ (fr2 a (.tail _ ha)))).list
        rw [q, hl3] at hCT0; cases hCT0
    · exact hGl
    · exact fun q => by have := hfr2 l (by simp); rw [← q, hW1] at this; cases this
end
end Mine

namespace Mine
theorem Ent0.keep {F F' : Ld} {a : EA} {pls : List Int} (E : Ent0 F a pls) (h : ∀ x ∈ a.st, ∀ o, F x = some o → F' x = some o) : Ent0 F' a pls where
  ent := h _ (by simp [EA.st]) _ E.ent
  inst := h _ (by simp [EA.st]) _ E.inst
  dict := let ⟨h1, h2, h3, t1, t2, t3, v1, v2, n, q⟩ := E.dict; ⟨h1, h2, h3, t1, t2, t3, v1, v2, n, h _ (by simp [EA.st]) _ q⟩
  plain := E.plain.keep (h _ (by simp [EA.st]))
  con := let ⟨ns, q, r⟩ := E.con; ⟨ns, q.keep (h _ (by simp [EA.st])), r⟩
  same := let ⟨ks, q1, q2, q3⟩ := E.same; ⟨ks, q1.keep (h _ (by simp [EA.st])), q2.keep (h _ (by simp [EA.st])), q3⟩
  nd := E.nd
  len := E.len
/-- the rows, as they were built; the clauses' lists lie outside F -/
structure EF (b : Heap) (F : Ld) (all : List (EA × List Int)) : Prop where
  ent : ∀ a ∈ all, Ent0 F a.1 a.2
  fl : ∀ a ∈ all, F a.1.l = none
  oth : ∀ a ∈ all, New b a.1.l ∧ 1 ≤ a.2.length ∧ a.2.length ≤ 5 ∧ Wish a.2
  apart : all.Pairwise fun a c => a.1.l ≠ c.1.l
/-- the clauses' lists -/
def EL (ld : Ld) (all : List (EA × List Int)) : Prop := ∀ a ∈ all, IntsAt ld a.1.l a.2
theorem in_snoc' {α : Type} {l : List α} {a x : α} : x ∈ l ++ [a] ↔ x ∈ l ∨ x = a := by rw [List.mem_append, List.mem_singleton]
theorem EF.snoc {b : Heap} {F F' ld : Ld} {all : List (EA × List Int)} {a : EA × List Int} (E : EF b F all) (El : EL ld all) (h : Sub F F') (hl : ∀ c ∈ all ++ [a], F' c.1.l = none) (ha : Ent0 F' a.1 a.2) (ho : New b a.1.l ∧ 1 ≤ a.2.length ∧ a.2.length ≤ 5 ∧ Wish a.2) (hf : ld a.1.l = none) : EF b F' (all ++ [a]) := by
  refine ⟨fun c hc => ?_, hl, fun c hc => ?_, ?_⟩
  · rcases in_snoc'.mp hc with hc | rfl
    · exact (E.ent c hc).mono h
    · exact ha
  · rcases in_snoc'.mp hc with hc | rfl
    · exact E.oth c hc
    · exact ho
  · rw [List.pairwise_append]
    refine ⟨E.apart, List.pairwise_singleton _ _, fun c hc d hd e => ?_⟩
    rw [List.mem_singleton.mp hd] at e
    obtain ⟨_, _, q, _⟩ := El c hc
    rw [e, hf] at q; cases q
section
variable {w : World} {A : Around} {E : Value → Shared → Prop} {s : Shared} {mg mb : Str → Option Value} {b : Heap} {L : Addr} {m m0 : Loc} {ld F : Ld} {env : Env} {sc : Scope}

set_option maxHeartbeats 4000000 in
/-- for place, number in enumerate([8] + script) -/
theorem build_walk {pc RD sD : Addr} {nums : List Int} {ov : Option Value} {pp : AsAddr} {f : Int → Option Bool} {seen asg : List Int} {p : Program} {loose : List Str} {mean : ExcName → Option Value} {Q : Flow → Shared → Prop} (C : Cx (KK w) mg mb b) (T : Top p loose mean mg mb b) (r : Room A 4) (e : EnvIs env (lawS w) L) (hcs : env.cells = [(("plain" : Str), pc)]) (hef : env.frame = some L) (hfr : A.frames = some [env])
    (z : Z b L m ld s.heap) (hF : Sub F ld) (hFR : F RD = none) (hFp : F pc = none) (hFW : ∀ c ∈ pp.W, F c = none) (S : AS PP w ld pp f seen asg) (hpW : pc ∉ pp.W) (hpa : pp.a ≠ pc) (hsD : IntsAt F sD nums) (hn : nums.length ≤ 8) (hsc : m "script" = some (.ref sD)) (hpc : CellIs ld pc ov) (hpn : New b pc) (hr : m "rows" = some (.ref RD)) (hRD : ld RD = some (lstO [])) (hRn : New b RD)
    (h : ∀ h' tk m' ld' F' all n, Z b L m' ld' h' → Lo buildN m m' → Sub F' ld' → EF b F' all → EL ld' all → (∀ a ∈ all, a.1.l ≠ RD) → AS PP w ld' pp f seen asg → IntsAt F' sD nums → F' RD = none → (∀ c ∈ pp.W, F' c = none) → ld' RD = some (listOf (all.map fun a => Value.ref a.1.e).toArray n) → all.length ≤ 9 → Q .next { s with heap := h', toks := tk }) :
    wpAny (model PP w) A (exec ((lawB w).getD 3 (.Pass default)) env) Q (fun _ _ => False) s := by
  show wpAny _ _ (exec (.For (.Tuple [.Name "place" _, .Name "number" _] _ _) (.Call (.Name "enumerate" _) [.BinOp (.List [.Constant (.int 8) _ _] _) .Add (.Name "script" _) _] [] _) (buildB w) [] _) env) _ _ _
  obtain ⟨svs, sn, hs1, hs2⟩ := id hsD
  have hsl := hs2.length
  refine wpAny_For (Call_ (ev_bi e C z rfl PyProof.Rows.boot_enumerate (Pv.callWith_type1 (args_cons (wpAny_BinOp (ev_list (b := b) (L := L) (args_cons (wpAny_Constant_int (args_nil ⟨_, _, z, Nat.le_add_left 1 9999, fun D1 h₁ hD1 hD1n z₁ => ev_loc e z₁ hsc ?_⟩))))))))) (by intro _; rfl)
  refine l_add z₁ upd_self (upd_old hD1 (hF _ _ hs1)) (Nat.le_add_left 1 999) (by omega) fun D h₂ hD hDn z₂ => args_nil ?_
  have hD0 : ld D = none := none_of (fun x o => upd_old hD1) hD
  obtain ⟨its, hints, z₃⟩ : ∃ its, IntsAre its (8 :: nums) ∧ Z b L m (upd ld D (listOf its.toArray 0)) h₂ := ⟨_, (IntsAre.cons 8 _ .nil).append hs2, z₂.mono (fun x o q => by
    by_cases hx : x = D
    · subst hx; rw [upd_self] at q ⊢; exact q
    · rw [upd_ne hx] at q ⊢; exact upd_old hD1 q) fun x o q => upd_old hD0 (z.base x o q)⟩
  have hup : upd ld D (listOf its.toArray 0) D = some (listOf its.toArray 0) := upd_self
  have k3 : Sub ld (upd ld D (listOf its.toArray 0)) := fun x o q => upd_old hD0 q
  have hDR : D ≠ RD := fun q => by rw [q, hRD] at hD0; cases hD0
  obtain ⟨oc, hc1, hc2⟩ := hpc
  have hDp : D ≠ pc := fun q => by rw [q, hc1] at hD0; cases hD0
  have hRp : RD ≠ pc := ne_of_obj hRD hc1 (by rw [hc2]; simp)
  have hRW : RD ∉ pp.W := lst_notW hRD S
  have hRa : pp.a ≠ RD := ne_of_cls S.inst hRD (by simp)
  clear z₂ z₁ z
  generalize upd ld D (listOf its.toArray 0) = l₁ at z₃ hup k3
  have hil := hints.length
  refine iter_enumI (s := { s with heap := h₂, toks := _ }) r e z₃ hup (fun I I' i m' l' => Lo buildN m m' ∧ (∀ x, x = I ∨ x = I' → x ≠ RD ∧ x ≠ pc ∧ x ∉ pp.W ∧ x ≠ pp.a) ∧ ∃ F' all n ov', Sub F' l' ∧ EF b F' all ∧ EL l' all ∧ (∀ a ∈ all, a.1.l ≠ RD ∧ a.1.l ≠ pc ∧ a.1.l ≠ I ∧ a.1.l ≠ I') ∧ all.length = i ∧ AS PP w l' pp f seen asg ∧ IntsAt F' sD nums ∧
      (∀ x, x = I ∨ x = I' ∨ x = RD ∨ x = pc ∨ x ∈ pp.W → F' x = none) ∧ l' RD = some (listOf (all.map fun a => Value.ref a.1.e).toArray n) ∧ CellIs l' pc ov') ?_ ?_ ?_ ?_
  · intro I I' ld₁ hI hI' k
    have hx : ∀ x, x = I ∨ x = I' → ld x = none := fun x q => by
      rcases q with rfl | rfl
      · exact none_of k3 hI
      · exact none_of k3 hI'
    refine ⟨Lo.refl, fun x q => ⟨fun e => ?_, fun e => ?_, fun hm => ?_, fun e => ?_⟩, F, [], 0, ov, fun x o q => k _ _ (k3 _ _ (hF x o q)), ⟨fun _ h => (nomatch h), fun _ h => (nomatch h), fun _ h => (nomatch h), .nil⟩, fun _ h => (nomatch h), fun _ h => (nomatch h), rfl, (S.sub k3).sub k, hsD, fun x q => ?_, k _ _ (k3 _ _ hRD), oc, k _ _ (k3 _ _ hc1), hc2⟩
    · have := hx x q; rw [e, hRD] at this; cases this
    · have := hx x q; rw [e, hc1] at this; cases this
    · obtain ⟨o, q'⟩ := S.some hm; rw [hx x q] at q'; cases q'
    · have := hx x q; rw [e, S.inst] at this; cases this
    · rcases q with q | q | rfl | rfl | q
      · exact none_of hF (hx x (.inl q))
      · exact none_of hF (hx x (.inr q))
      · exact hFR
      · exact hFp
      · exact hFW x q
  · rintro I I' hI hI' i m₁ l₂ l₃ ⟨j1, i1, F', all, n, ov', j2, j3, j4, i2, j5, j6, j7, i3, j8, oc', j9, j10⟩ k
    have kk : ∀ x, ¬ (x = I ∨ x = I') → l₃ x = l₂ x := fun x q => k x (fun e => q (.inl e)) fun e => q (.inr e)
    refine ⟨j1, i1, F', all, n, ov', fun x o q => (kk x fun h => ?_).trans (j2 x o q), j3, fun a ha => (j4 a ha).keep fun o q => (kk _ fun h => ?_).trans q, i2, j5, j6.congr (kk _ fun h => (i1 _ h).2.2.2 rfl) fun c hc => kk c fun h => (i1 _ h).2.2.1 hc, j7, i3, (kk _ fun h => (i1 _ h).1 rfl).trans j8, oc', (kk _ fun h => (i1 _ h).2.1 rfl).trans j9, j10⟩
    · rw [i3 x (h.elim .inl fun h => .inr (.inl h))] at q; cases q
    · rcases h with h | h
      · exact (i2 a ha).2.2.1 h
      · exact (i2 a ha).2.2.2 h
  · rintro I I' oI oI' i t v m₁ lq h₃ tk₃ hI hI' hqI hqI' hv ⟨j1, i1, F', all, n, ov', j2, j3, j4, i2, j5, j6, j7, i3, j8, oc', j9, j10⟩ hqx z
    obtain ⟨nu, tn, rfl, hk⟩ := IntsAre.at hints i v (by simpa using hv)
    have hi9 : i < 9 := by have := (List.getElem?_eq_some_iff.mp hk).1; rw [List.length_cons] at this; omega
    have lo1 : Lo buildN m (fun y => if y = "number" then some (.int nu tn) else if y = "place" then some (.int i t) else m₁ y) := fun x hx => ((if_neg fun q => hx (by rw [q]; decide)).trans (if_neg fun q => hx (by rw [q]; decide))).trans (j1 x hx)
    refine build_turn (s := { s with heap := h₃, toks := tk₃ }) C T r e hcs hef hfr z ⟨oc', j9, j10⟩ hpn rfl rfl ((lo1 _ (by decide)).trans hr) j8 hRn (by rw [List.length_map]; omega) fun h₄ tk₄ m₄ l₄ a pls n₄ ov₄ z lo k₄ hR₄ hc₄ hE hl hln hp1 hp5 hpW' hfr₄ hne₄ => ?_
    let D' : Addr → Prop := fun x => (x = I ∨ x = I' ∨ x = RD ∨ x = pc ∨ x ∈ pp.W) ∨ ∃ c ∈ all ++ [(a, pls)], x = c.1.l
    have hla : lq a.l = none := hfr₄ _ (.head _)
    have hF'l : F' a.l = none := none_of j2 hla
    have hDF : ∀ x, D' x → F' x = none := fun x hx => by
      rcases hx with hx | ⟨c, hc, rfl⟩
      · exact i3 x hx
      · rcases in_snoc'.mp hc with hc | rfl
        · exact j3.fl c hc
        · exact hF'l
    have hFF : Sub F' (cutP D' l₄) := cutP_of hDF fun x o q => k₄ x o (fun e => by rw [e, i3 RD (.inr (.inr (.inl rfl)))] at q; cases q) (fun e => by rw [e, i3 pc (.inr (.inr (.inr (.inl rfl))))] at q; cases q) (j2 x o q)
    have hnew : ∀ x ∈ a.st, ∀ o, l₄ x = some o → cutP D' l₄ x = some o := fun x hx o q => (cutP_out fun hd => by
      have hx0 := hfr₄ x (.tail _ hx)
      rcases hd with (rfl | rfl | rfl | rfl | hd) | ⟨c, hc, rfl⟩
      · rw [hqI] at hx0; cases hx0
      · rw [hqI'] at hx0; cases hx0
      · rw [j8] at hx0; cases hx0
      · rw [j9] at hx0; cases hx0
      · obtain ⟨o, q'⟩ := j6.some hd; rw [hx0] at q'; cases q'
      · rcases in_snoc'.mp hc with hc | rfl
        · obtain ⟨_, _, q', _⟩ := j4 c hc; rw [hx0] at q'; cases q'
        · exact hne₄ _ hx rfl).trans q
    have hnl : ∀ x, lq x ≠ none → a.l ≠ x := fun x q e => q (by rw [← e]; exact hla)
    refine ⟨_, _, _, _, rfl, z, ⟨lo1.trans lo, i1, cutP D' l₄, all ++ [(a, pls)], n₄, ov₄, cutP_sub, j3.snoc j4 hFF (fun c hc => cutP_in (.inr ⟨c, hc, rfl⟩)) (hE.keep hnew) ⟨hln, hp1, hp5, hpW'⟩ hla, fun c hc => ?_, fun c hc => ?_, by rw [List.length_append, j5]; rfl, j6.congr ?_ fun c hc => ?_, j7.sub hFF,
      fun x hx => cutP_in (.inl hx), by rw [List.map_append]; exact hR₄, hc₄⟩, fun x hx => ?_⟩
    · rcases in_snoc'.mp hc with hc | rfl
      · exact (j4 c hc).keep fun o => k₄ _ _ (i2 c hc).1 (i2 c hc).2.1
      · exact hl
    · rcases in_snoc'.mp hc with hc | rfl
      · exact i2 c hc
      · exact ⟨hnl _ (by rw [j8]; simp), hnl _ (by rw [j9]; simp), hnl _ (by rw [hqI]; simp), hnl _ (by rw [hqI']; simp)⟩
    · rw [k₄ _ _ hRa hpa j6.inst, j6.inst]
    · obtain ⟨o, q⟩ := j6.some hc
      rw [k₄ _ _ (fun e => hRW (e ▸ hc)) (fun e => hpW (e ▸ hc)) q, q]
    · have hx' : x = I ∨ x = I' ∨ x = D := by simpa using hx
      rcases hx' with rfl | rfl | rfl
      · rw [k₄ _ _ (i1 _ (.inl rfl)).1 (i1 _ (.inl rfl)).2.1 hqI, hqI]
      · rw [k₄ _ _ (i1 _ (.inr rfl)).1 (i1 _ (.inr rfl)).2.1 hqI', hqI']
      · rw [k₄ _ _ hDR hDp hqx, hqx]
  · rintro m₁ lq h₃ tk₃ I I' ⟨j1, i1, F', all, n, ov', j2, j3, j4, i2, j5, j6, j7, i3, j8, j9⟩ z
    rw [List.size_toArray, hil, List.length_cons] at j5
    exact h _ _ _ _ F' all n z j1 j2 j3 j4 (fun a ha => (i2 a ha).1) j6 j7 (i3 RD (.inr (.inr (.inl rfl)))) (fun c hc => i3 c (.inr (.inr (.inr (.inr hc))))) j8 (by omega)
end
end Mine

namespace Mine
/-- rows with more than one wish -/
def two (a : EA × List Int) : Bool := decide (1 < a.2.length)
theorem take_filter {α : Type} {l : List α} {i : Nat} {a : α} {p : α → Bool} (h : l[i]? = some a) : (l.take (i + 1)).filter p = (l.take i).filter p ++ if p a then [a] else [] := by
  rw [List.take_add_one, h, List.filter_append]
  cases hp : p a <;> simp [List.filter, hp]
section
variable {w : World} {A : Around} {E : Value → Shared → Prop} {s : Shared} {mg mb : Str → Option Value} {b : Heap} {L : Addr} {m m0 : Loc} {ld F : Ld} {env : Env} {sc : Scope}

set_option maxHeartbeats 2000000 in
/-- watched = [entry for entry in rows if len(entry[1]) > 1] -/
theorem watched_walk {pc RD : Addr} {all : List (EA × List Int)} {n : Nat} {Q : Flow → Shared → Prop} (C : Cx (KK w) mg mb b) (r : Room A 3) (e : EnvIs env (lawS w) L) (hcs : env.cells = [(("plain" : Str), pc)]) (z : Z b L m ld s.heap) (hF : Sub F ld) (hE : EF b F all) (hr : m "rows" = some (.ref RD)) (hRD : ld RD = some (listOf (all.map fun a => Value.ref a.1.e).toArray n)) (hlen : all.length ≤ 9)
    (h : ∀ h' tk ld' WD, Z b L (fun y => if y = "watched" then some (.ref WD) else m y) ld' h' → Sub ld ld' → ld WD = none → New b WD → ld' WD = some (lstO ((all.filter two).map fun a => Value.ref a.1.e)) → Q .next { s with heap := h', toks := tk }) :
    wpAny (model PP w) A (exec ((lawB w).getD 4 (.Pass default)) env) Q (fun _ _ => False) s := by
  show wpAny _ _ (exec (.Assign [.Name "watched" _] (.ListComp (.Name "entry" _) [⟨.Name "entry" _, .Name "rows" _, [.Compare (.Call (.Name "len" _) [.Subscript (.Name "entry" _) (.Constant (.int 1) _ _) _] [] _) [.Gt] [.Constant (.int 1) _ _] _], 0⟩] _ _) _) env) _ _ _
  refine as_lc e hcs rfl (ev_loc e z hr ?_)
  refine lc_list (cl := []) r e z hRD (by rw [List.size_toArray, List.length_map, PySem.sizeLine_eq]; omega) (fun I D i ys l => Sub ld l ∧ ys = ((all.take i).filter two).map fun a => Value.ref a.1.e) ?_ ?_ ?_ ?_
  · intro I D ld₁ _ _ k; exact ⟨k, rfl⟩
  · rintro I D hI hD i ys l l' ⟨q1, q2⟩ q3
    refine ⟨fun a o q => ?_, q2⟩
    rw [q3 a (fun e => by rw [e, hI] at q; cases q) (fun e => by rw [e, hD] at q; cases q) (z.neL q)]; exact q1 a o q
  · rintro I C' D i v ys m₁ lq h₁ tk₁ hI hD hC hv ⟨q1, q2⟩ hqx hqI hqD hqL eC z₁
    obtain ⟨a, ha, rfl⟩ : ∃ a, all[i]? = some a ∧ v = .ref a.1.e := by
      rw [List.getElem?_toArray, List.getElem?_map] at hv
      obtain ⟨a, h1, h2⟩ := Option.map_eq_some_iff.mp hv
      exact ⟨a, h1, h2.symm⟩
    have hm := List.mem_of_getElem? ha
    have hE0 := hE.ent a hm
    obtain ⟨pvs, pn, hp1, hp2⟩ := hE0.plain
    have h5 := (hE.oth a hm).2.2.1
    refine wpAny_tests_one (wpAny_isTrue_Compare1 (Call_ (ev_bi eC C z₁ rfl boot_len (PyProof.Rows.callWith_builtin1 (args_cons (Subscript_ (ev_loc eC z₁ (if_pos rfl) (wpAny_Constant_int (item_list (z₁.isList (q1 _ _ (hF _ _ hE0.ent))) (by decide) (by decide) (x := .ref a.1.pl) rfl (args_nil ?_))))))))))
    refine call_len_list (z₁.isList (q1 _ _ (hF _ _ hp1))) (by rw [List.size_toArray, hp2.length]; omega) (wpAny_Constant_int (gt_int (wpAny_truthy_bool ?_)))
    rw [List.size_toArray, hp2.length]
    have htw : decide ((a.2.length : Int) > 1) = two a := by unfold two; rw [Bool.eq_iff_iff]; simp only [decide_eq_true_eq]; omega
    have htf := take_filter (p := two) ha
    rw [htw]
    cases hc : two a with
    | true =>
      rw [if_pos rfl]
      rw [hc, if_pos rfl] at htf
      exact ev_loc eC z₁ (if_pos rfl) ⟨_, _, _, _, rfl, z₁, ⟨q1, by rw [htf, List.map_append, q2]; rfl⟩, fun _ _ => rfl⟩
    | false =>
      rw [if_neg (by decide)]
      rw [hc, if_neg (by decide), List.append_nil] at htf
      exact ⟨_, _, _, _, rfl, z₁, ⟨q1, by rw [htf, q2]⟩, fun _ _ => rfl⟩
  · rintro I D C' ys lq mC h₁ tk₁ hD hDn ⟨q1, q2⟩ hqD z₁ hC hLC hns
    rw [List.size_toArray, List.length_map, List.take_length] at q2
    exact post_use e z₁ hC hLC hns fun h₂ z₂ => h _ _ _ D z₂ q1 hD hDn (by rw [← q2]; exact hqD)

set_option maxHeartbeats 2000000 in
/-- return [entry[1] for entry in rows if entry[3] != entry[4]] == [] -/
theorem last_walk {pc RD : Addr} {all : List (EA × List Int)} {n : Nat} {Q : Flow → Shared → Prop} (r : Room A 3) (e : EnvIs env (lawS w) L) (hcs : env.cells = [(("plain" : Str), pc)]) (z : Z b L m ld s.heap) (hF : Sub F ld) (hE : EF b F all) (hr : m "rows" = some (.ref RD)) (hRD : ld RD = some (listOf (all.map fun a => Value.ref a.1.e).toArray n)) (hlen : all.length ≤ 9)
    (h : ∀ h' tk ld', Z b L m ld' h' → Q (.ret (.bool true)) { s with heap := h', toks := tk }) :
    wpAny (model PP w) A (execs ((lawB w).drop 7) env) Q (fun _ _ => False) s := by
  show wpAny _ _ (execs (.Return (some (.Compare (.ListComp (.Subscript (.Name "entry" _) (.Constant (.int 1) _ _) _) [⟨.Name "entry" _, .Name "rows" _, [.Compare (.Subscript (.Name "entry" _) (.Constant (.int 3) _ _) _) [.NotEq] [.Subscript (.Name "entry" _) (.Constant (.int 4) _ _) _] _], 0⟩] _ _) [.Eq] [.List [] _] _)) _ :: []) env) _ _ _
  refine wpAny_execs_cons (wpAny_Return_some (wpAny_Compare1 (lc (cl := []) hcs rfl (ev_loc e z hr ?_))))
  refine lc_list r e z hRD (by rw [List.size_toArray, List.length_map, PySem.sizeLine_eq]; omega) (fun I D i ys l => Sub ld l ∧ ys = []) ?_ ?_ ?_ ?_
  · intro I D ld₁ _ _ k; exact ⟨k, rfl⟩
  · rintro I D hI hD i ys l l' ⟨q1, q2⟩ q3
    refine ⟨fun a o q => ?_, q2⟩
    rw [q3 a (fun e => by rw [e, hI] at q; cases q) (fun e => by rw [e, hD] at q; cases q) (z.neL q)]; exact q1 a o q
  · rintro I C' D i v ys m₁ lq h₁ tk₁ hI hD hC hv ⟨q1, q2⟩ hqx hqI hqD hqL eC z₁
    obtain ⟨a, ha, rfl⟩ : ∃ a, all[i]? = some a ∧ v = .ref a.1.e := by
      rw [List.getElem?_toArray, List.getElem?_map] at hv
      obtain ⟨a, h1, h2⟩ := Option.map_eq_some_iff.mp hv
      exact ⟨a, h1, h2.symm⟩
    have hE0 := hE.ent a (List.mem_of_getElem? ha)
    have hen : h₁.IsList a.1.e _ := z₁.isL (q1 _ _ (hF _ _ hE0.ent))
    obtain ⟨ks, ⟨gvs, gn, hg1, hg2⟩, ⟨wvs, wn, hw1, hw2⟩, _⟩ := hE0.same
    refine wpAny_tests_one (wpAny_isTrue_Compare1 (Subscript_ (ev_loc eC z₁ (if_pos rfl) (wpAny_Constant_int (item_list hen (by decide) (by decide) (x := .ref a.1.gv) rfl ?_)))))
    refine Subscript_ (ev_loc eC z₁ (if_pos rfl) (wpAny_Constant_int (item_list hen (by decide) (by decide) (x := .ref a.1.ws) rfl ?_)))
    refine ne_intsK (z₁.isList (q1 _ _ (hF _ _ hg1))) hg2 (z₁.isList (q1 _ _ (hF _ _ hw1))) hw2 r.unit64 (wpAny_truthy_bool ?_)
    rw [decide_eq_true (rfl : ks = ks), if_neg (by decide)]
    exact ⟨_, _, _, _, rfl, z₁, ⟨q1, q2⟩, fun _ _ => rfl⟩
  · rintro I D C' ys lq mC h₁ tk₁ hD hDn ⟨q1, rfl⟩ hqD z₁ hC hLC hns
    refine post_plain z₁ hC hLC hns fun h₂ z₂ => ev_nil z₂ fun D3 h₃ hD3 _ z₃ => ?_
    exact eq_intsK (vs := []) (us := []) (ns := []) (ms := []) (z₃.isList (upd_old hD3 hqD)) .nil (z₃.isList upd_self) .nil r.unit64 (h _ _ _ (z₂.drop z₃ hD3))
end
end Mine

namespace Mine
section
variable {w : World} {A : Around} {E : Value → Shared → Prop} {s : Shared} {mg mb : Str → Option Value} {b : Heap} {L : Addr} {m m0 : Loc} {ld F : Ld} {env : Env} {sc : Scope}

/-- x[:k] of a list that is not led -/
theorem ev_uptoI {x : Str} {px p1 p2 p3 : Pos} {l : Addr} {vs : List Value} {k : Nat} {j : Nat} {Q : Value → Shared → Prop} {sc : Scope} (e : EnvIs env sc L) (z : Z b L m ld s.heap) (hx : m x = some (.ref l)) (hl : s.heap.IsList l vs.toArray) (hsz : vs.length ≤ 1000)
    (h : ∀ a h' tk, ld a = none → Z b L m (upd ld a (listOf (vs.take k).toArray 0)) h' → Q (.ref a) { s with heap := h', toks := tk })
    (hn : sc.names.lookup x = some .local := by rfl) (hd : (x == ("__debug__" : Str)) = false := by decide) :
    wpAny (model PP w) A (eval (.Subscript (.Name x px) (.Slice none (some (.Constant (.int k) j p1)) none p2) p3) env) Q E s := by
  refine Subscript_ (ev_loc e z hx ?_ hn hd)
  refine wpAny_Slice (evalPart_none_step (evalPart_some_step (wpAny_Constant_int (evalPart_none_step ?_))))
  refine slice_listK (s := { s with toks := s.toks + 1 }) hl .none (.int k s.toks) ?_ (hsz := by rw [List.size_toArray]; exact Nat.le_trans hsz (by decide))
  have z1 := z.push { cls := .type "slice", data := .fields #[.none, .int k s.toks, .none] }
  have z2 := z1.push { cls := .type "list", data := .seq (slicePick vs.toArray none (some k) none) }
  rw [Heap.size_push] at z2
  refine h _ _ _ ?_ (z2.mono (fun a o q => ?_) fun a o q => ?_)
  · exact z.none1
  · by_cases q1 : a = s.heap.objs.size + 1
    · subst q1; rw [upd_self] at q ⊢; rw [← q, slicePick_upto']
    · rw [upd_ne q1] at q ⊢
      rw [upd_ne (ne_of_lt1 (z.lt q))]; exact q
  · rw [upd_ne (ne_of_lt2 (z.blt q))]; exact z.base _ _ q

theorem filter_pair {α : Type} {R : α → α → Prop} {l : List α} {p : α → Bool} (h : l.Pairwise R) (hs : ∀ a c, R a c → R c a) : ∀ (i j : Nat) a c, i ≠ j → (l.filter p)[i]? = some a → (l.filter p)[j]? = some c → R a c := fun i j a c hij hi hj => by
  have h2 := List.pairwise_iff_getElem.mp (h.filter p)
  obtain ⟨hi1, hi2⟩ := List.getElem?_eq_some_iff.mp hi
  obtain ⟨hj1, hj2⟩ := List.getElem?_eq_some_iff.mp hj
  rcases Nat.lt_or_gt_of_ne hij with hh | hh
  · have := h2 i j hi1 hj1 hh; rwa [hi2, hj2] at this
  · have := h2 j i hj1 hi1 hh; rw [hi2, hj2] at this; exact hs _ _ this

set_option maxHeartbeats 4000000 in
/-- the statements behind the rows -/
theorem acts_all {pc RD sD : Addr} {all : List (EA × List Int)} {n : Nat} {pp : AsAddr} {nums : List Int} {Q : Flow → Shared → Prop} (C : Cx (KK w) mg mb b) (r : Room A 6) (e : EnvIs env (lawS w) L) (hcs : env.cells = [(("plain" : Str), pc)]) (z : Z b L m ld s.heap) (hF : Sub F ld) (hE : EF b F all) (hEl : EL ld all) (hlR : ∀ a ∈ all, a.1.l ≠ RD)
    (S : AS PP w ld pp (fun _ => none) [] []) (hp : pp.Ok b) (hsD : IntsAt F sD nums) (hn : nums.length ≤ 8) (hFR : F RD = none) (hFW : ∀ c ∈ pp.W, F c = none) (hRD : ld RD = some (listOf (all.map fun a => Value.ref a.1.e).toArray n)) (hall : all.length ≤ 9)
    (hsc : m "script" = some (.ref sD)) (hr : m "rows" = some (.ref RD)) (hheld : m "held" = some (.ref pp.a))
    (h : ∀ h' tk m' ld', Z b L m' ld' h' → Q (.ret (.bool true)) { s with heap := h', toks := tk }) :
    wpAny (model PP w) A (execs ((lawB w).drop 4) env) Q (fun _ _ => False) s := by
  show wpAny _ _ (execs ((lawB w).getD 4 (.Pass default) :: .Assign [.Name "levels" _] (.List [] _) _ :: (lawB w).getD 6 (.Pass default) :: (lawB w).drop 7) env) _ _ _
  refine wpAny_execs_cons (watched_walk C (r.le (by omega)) e hcs z hF hE hr hRD hall fun h₁ tk₁ l₁ WD z₁ k₁ hWD hWDn hWl => ?_)
  refine wpAny_execs_cons (wpAny_Assign_Name (ev_nil z₁ fun LD h₂ hLD hLDn z₂ => st_loc e z₂ fun h₃ z₃ => ?_))
  dsimp only
  have up : Sub l₁ (upd l₁ LD (lstO [])) := fun x o => upd_old hLD
  have hLl : upd l₁ LD (lstO []) LD = some (lstO []) := upd_self
  obtain ⟨m₃, z₃, g1, g2, g3, g4, g5⟩ : ∃ m₃ : Loc, Z b L m₃ (upd l₁ LD (lstO [])) h₃ ∧ m₃ "script" = some (.ref sD) ∧ m₃ "rows" = some (.ref RD) ∧ m₃ "held" = some (.ref pp.a) ∧ m₃ "watched" = some (.ref WD) ∧ m₃ "levels" = some (.ref LD) := ⟨_, z₃, hsc, hr, hheld, rfl, rfl⟩
  have k2 : Sub ld (upd l₁ LD (lstO [])) := fun x o q => up _ _ (k₁ _ _ q)
  have hWl2 := up _ _ hWl
  have hLD0 : ld LD = none := none_of k₁ hLD
  have hWL : WD ≠ LD := fun q => by rw [← q, hWl] at hLD; cases hLD
  have hRL : RD ≠ LD := fun q => by rw [← q, hRD] at hLD0; cases hLD0
  have hRW : RD ≠ WD := fun q => by rw [← q, hRD] at hWD; cases hWD
  clear z₂ z₁ up hWl k₁
  generalize upd l₁ LD (lstO []) = l₃ at z₃ hLl k2 hWl2
  -- what stands still
  let oR : Obj := listOf (all.map fun a => Value.ref a.1.e).toArray n
  let oW : Obj := lstO ((all.filter two).map fun a => Value.ref a.1.e)
  have hFWD : F WD = none := none_of hF hWD
  have hFF : Sub F (upd (upd F RD oR) WD oW) := fun x o q => upd_old (by rw [upd_ne (Ne.symm hRW)]; exact hFWD) (upd_old hFR q)
  have hX : Sub (upd (upd F RD oR) WD oW) l₃ := fun x o q => by
    by_cases h1 : x = WD
    · subst h1; rw [upd_self] at q; cases q; exact hWl2
    · rw [upd_ne h1] at q
      by_cases h2 : x = RD
      · subst h2; rw [upd_self] at q; cases q; exact k2 _ _ hRD
      · rw [upd_ne h2] at q; exact k2 _ _ (hF _ _ q)
  have hXn : ∀ x, x ≠ RD → x ≠ WD → F x = none → upd (upd F RD oR) WD oW x = none := fun x h1 h2 h3 => by rw [upd_ne h2, upd_ne h1]; exact h3
  have hXR : upd (upd F RD oR) WD oW RD = some oR := (upd_ne hRW).trans upd_self
  have hXW : upd (upd F RD oR) WD oW WD = some oW := upd_self
  have hlW : ∀ a ∈ all, a.1.l ≠ WD := fun a ha q => by obtain ⟨_, _, q', _⟩ := hEl a ha; rw [q, hWD] at q'; cases q'
  have hWW : ∀ c ∈ pp.W, c ≠ RD ∧ c ≠ WD := fun c hc => ⟨fun q => lst_notW hRD S (q ▸ hc), fun q => by obtain ⟨o, q'⟩ := S.some hc; rw [q, hWD] at q'; cases q'⟩
  have hXl : ∀ a ∈ all, upd (upd F RD oR) WD oW a.1.l = none := fun a ha => hXn _ (hlR a ha) (hlW a ha) (hE.fl a ha)
  have hXc : ∀ c ∈ pp.W, upd (upd F RD oR) WD oW c = none := fun c hc => hXn _ (hWW c hc).1 (hWW c hc).2 (hFW c hc)
  have hXL : upd (upd F RD oR) WD oW LD = none := hXn _ (Ne.symm hRL) (Ne.symm hWL) (none_of hF hLD0)
  generalize upd (upd F RD oR) WD oW = X at hFF hX hXR hXW hXl hXc hXL
  clear hXn
  have mem : ∀ {a}, a ∈ all.filter two → a ∈ all ∧ 2 ≤ a.2.length := fun {a} ha => by
    obtain ⟨h1, h2⟩ := List.mem_filter.mp ha
    exact ⟨h1, of_decide_eq_true h2⟩
  have R : TF b X (all.filter two) pp WD RD m₃ := ⟨⟨fun j a ha => by
      obtain ⟨h1, h2⟩ := mem (List.mem_of_getElem? ha)
      exact ⟨(hE.ent a h1).mono hFF, h2, hXl a h1, (hE.oth a h1).1⟩, filter_pair hE.apart fun a c q => Ne.symm q⟩, hXc, ⟨_, hXW⟩, hp, Nat.le_trans (List.length_filter_le ..) hall, fun a ha => (hE.oth a (mem ha).1).2.2.2, g3, g4, g2⟩
  let g : Nat → List Int := fun j => match (all.filter two)[j]? with | some a => a.2 | none => []
  have hg : ∀ (j : Nat) a, (all.filter two)[j]? = some a → g j = a.2 := fun j a ha => by show (match (all.filter two)[j]? with | some a => a.2 | none => []) = _; rw [ha]
  have TS0 : TS w b X (all.filter two) pp m₃ m₃ l₃ LD [] [] (fun _ => none) [] [] g := {
    mlo := Lo.refl
    ml := g5
    sub := hX
    as := S.sub k2
    rs := fun j a ha => by rw [hg j a ha]; exact (hEl a (mem (List.mem_of_getElem? ha)).1).sub k2
    lst := ⟨_, hLl⟩
    new := hLDn
    rows := ⟨rfl, fun i l ns h1 => (nomatch h1)⟩
    fr := fun x hx a ha => by
      rcases hx with rfl | hx
      · intro q
        obtain ⟨_, _, q', _⟩ := hEl a (mem ha).1
        rw [← q, hLD0] at q'; cases q'
      · cases hx
    ap := fun hm => (nomatch hm)
    fl := hXL
    fls := fun l hl => (nomatch hl) }
  have TP0 : TP (fun _ => none) [] [] := ⟨⟨.nil, fun k hk => (nomatch hk)⟩, fun k => ⟨⟨fun q => (nomatch q), fun q => (nomatch q)⟩, ⟨fun q => (nomatch q), fun q => (nomatch q)⟩⟩, .nil⟩
  have G0 : GP (Pre []) (all.filter two) g := fun j a ha => by
    rw [hg j a ha]
    refine ⟨.refl _, fun P hP => ?_⟩
    obtain ⟨i, rfl⟩ := hP
    rw [List.take_nil, List.flatten_nil]
    match a.2 with
    | [] => trivial
    | [_] => trivial
    | _ :: _ :: _ => exact ⟨fun q => (nomatch q), fun q => (nomatch q)⟩
  refine wpAny_execs_cons (acts_walk (s := { s with heap := h₃, toks := _ }) C (r.le (by omega)) e hcs z₃ R TS0 TP0 G0 g1 ((hsD.sub hFF).sub hX) hn fun h₄ tk₄ m₄ l₄ z₄ k₄ lo₄ => ?_)
  refine last_walk (s := { s with heap := h₄, toks := tk₄ }) (r.le (by omega)) e hcs z₄ k₄ (all := all) ⟨fun a ha => (hE.ent a ha).mono hFF, hXl, hE.oth, hE.apart⟩ ((lo₄ _ (by decide)).trans g2) (k₄ _ _ hXR) hall fun h₅ tk₅ l₅ z₅ => ?_
  exact h _ _ _ _ z₅
end
end Mine

namespace Mine
section
variable {w : World} {A : Around} {E : Value → Shared → Prop} {s : Shared} {mg mb : Str → Option Value} {b : Heap} {L : Addr} {m m0 : Loc} {ld F : Ld} {env : Env} {sc : Scope}

set_option maxHeartbeats 4000000 in
theorem law_all {l : Addr} {vs : List Value} {nums : List Int} {p : Program} {loose : List Str} {mean : ExcName → Option Value} {Q : Value → Shared → Prop}
    (C : Cx (KK w) mg mb b) (T : Top p loose mean mg mb b) (hB : Bs b s.heap) (r : Room A 7) (hA : A.frames = some []) (hl : s.heap.IsList l vs.toArray) (hi : IntsAre vs nums) (hlen : vs.length ≤ 63)
    (h : ∀ h' tk, (∀ a o, b.get? a = some o → h'.get? a = some o) → Q (.bool true) { s with heap := h', toks := tk }) :
    wpAny (model PP w) A (call (.ref 282) [.ref l]) Q E s := by
  refine enterX (n := 6) C hB r rfl rfl rfl (BindsTo.of_eq rfl) rfl rfl rfl rfl rfl rfl rfl ?_
  intro A' env L ld h₁ tk r' e hcs hL hL0 z hk hcell ⟨_, hef, hfr⟩
  dsimp only at e hcs
  have hcs' : env.cells = [(("plain" : Str), L + 1)] := hcs
  rw [hA] at hfr
  replace hfr : A'.frames = some [env] := hfr
  obtain ⟨hpc, hp0, hpn⟩ := hcell "plain" (L + 1) (by rw [hcs']; rfl)
  obtain ⟨oc, hc1, hc2⟩ := hpc
  generalize L + 1 = pc at hcs' hc1 hc2 hp0 hpn
  have hl₁ : h₁.IsList l vs.toArray := by
    obtain ⟨o, ho, q⟩ := hl
    exact ⟨o, z.led _ _ (hk _ _ ho), q⟩
  show wpAny _ _ (execs (.Assign [.Name "script" _] (.Subscript (.Name "script" _) (.Slice none (some (.Constant (.int 8) _ _)) none _) _) _ :: .Assign [.Name "held" _] (.Call (.Name "AssignmentSet" _) [] [] _) _ :: .Assign [.Name "rows" _] (.List [] _) _ :: (lawB w).getD 3 (.Pass default) :: (lawB w).drop 4) env) _ _ _
  refine wpAny_execs_cons (wpAny_Assign_Name (ev_uptoI (s := { s with heap := h₁, toks := tk }) e z rfl hl₁ (by omega) fun sD h₂ tk₂ hsD z₂ => st_loc e z₂ fun h₃ z₃ => ?_))
  dsimp only
  have hs1 : upd ld sD (listOf (vs.take 8).toArray 0) sD = some (listOf (vs.take 8).toArray 0) := upd_self
  have hc3 : upd ld sD (listOf (vs.take 8).toArray 0) pc = some oc := upd_old hsD hc1
  obtain ⟨m₃, z₃, g1⟩ : ∃ m₃ : Loc, Z b L m₃ (upd ld sD (listOf (vs.take 8).toArray 0)) h₃ ∧ m₃ "script" = some (.ref sD) := ⟨_, z₃, rfl⟩
  clear z₂ z hk hl₁ hsD
  generalize upd ld sD (listOf (vs.take 8).toArray 0) = l₃ at z₃ hs1 hc3
  refine wpAny_execs_cons (wpAny_Assign_Name (Call_ (ev_glob e C z₃ rfl (cw_K0 C z₃ rfl ?_))))
  refine mkASet_spec (s := { s with heap := h₃, toks := _ }) C z₃.bs (r'.le (by omega)) fun h₄ tk₄ l₄ pp led hpok hpan k hnone S => ?_
  obtain ⟨z₄, k₄, n₄⟩ := z₃.made led k
  have S4 : AS PP w (off L l₄) pp (fun _ => none) [] [] := S.congr (n₄ _ (hnone _ (.head _))) fun c hc => n₄ _ (hnone _ (.tail _ hc))
  have nW : ∀ x o, l₃ x = some o → x ∉ pp.a :: pp.W := fun x o q hm => by have := hnone x hm; rw [z₃.led _ _ q] at this; cases this
  have hs4 := k₄ _ _ hs1
  have hc4 := k₄ _ _ hc3
  have hpcW := nW _ _ hc3
  have hsW := nW _ _ hs1
  clear led k hnone S n₄ z₃ nW
  refine st_loc e z₄ fun h₅ z₅ => ?_
  refine wpAny_execs_cons (wpAny_Assign_Name (ev_nil z₅ fun RD h₆ hRD hRDn z₆ => st_loc e z₆ fun h₇ z₇ => ?_))
  dsimp only
  obtain ⟨m₇, z₇, g2, g3, g4⟩ : ∃ m₇ : Loc, Z b L m₇ (upd (off L l₄) RD (lstO [])) h₇ ∧ m₇ "script" = some (.ref sD) ∧ m₇ "held" = some (.ref pp.a) ∧ m₇ "rows" = some (.ref RD) := ⟨_, z₇, g1, rfl, rfl⟩
  generalize off L l₄ = l₅ at z₇ S4 hs4 hc4 hRD
  let D : Addr → Prop := fun x => x = pc ∨ x ∈ pp.W
  have hFl : Sub (cutP D l₅) (upd l₅ RD (lstO [])) := fun x o q => upd_old hRD (cutP_sub x o q)
  have hsp : sD ≠ pc := ne_of_obj hs4 hc4 (by rw [hc2]; simp)
  have hsF : IntsAt (cutP D l₅) sD (nums.take 8) := ⟨_, _, (cutP_out fun q => q.elim hsp fun q => hsW (.tail _ q)).trans hs4, hi.take 8⟩
  have hn8 : (nums.take 8).length ≤ 8 := by rw [List.length_take]; omega
  refine wpAny_execs_cons (build_walk (s := { s with heap := h₇, toks := _ }) (ov := _) C T (r'.le (by omega)) e hcs' hef hfr z₇ hFl (none_of cutP_sub hRD) (cutP_in (.inl rfl)) (fun c hc => cutP_in (.inr hc)) (S4.sub fun x o => upd_old hRD) (fun q => hpcW (.tail _ q)) (fun q => hpcW (by rw [← q]; exact .head _)) hsF hn8 g2
    ⟨oc, upd_old hRD hc4, hc2⟩ hpn g4 upd_self hRDn fun h₈ tk₈ m₈ l₈ F' all n z₈ lo₈ k₈ hE hEl hlR S8 hs8 hFR hFW hRD8 hall => ?_)
  refine acts_all (s := { s with heap := h₈, toks := tk₈ }) C r' e hcs' z₈ k₈ hE hEl hlR S8 hpok hs8 hn8 hFR hFW hRD8 hall ((lo₈ _ (by decide)).trans g2) ((lo₈ _ (by decide)).trans g4) ((lo₈ _ (by decide)).trans g3) fun h₉ tk₉ m₉ l₉ z₉ => ?_
  exact h h₉ tk₉ z₉.stays
end
end Mine

set_option maxHeartbeats 8000000 in
theorem PySem.Challenge.cw_nc0035_02_holds : PySem.Challenge.rw_nc0035_02.Holds := by
  refine Mine.hd02 ?_
  intro w s₀ s₁ mg mb G Y fa o pm cd doc dV kV ho hd hcd hD hmg hg args vals as hpre hlay hrd hwl hlo
  have X : (Mine.KK w).In s₁.heap := Y
  have T := G.T
  have C : Mine.Cx (Mine.KK w) mg mb s₁.heap := ⟨X, T.g, T.b, T.nolimit, T.builtins⟩
  obtain rfl : fa = 282 := by
    have h1 := mg_of (n := ("law" : Str)) X T.g (show nsIn (Mine.KK w) mainGlobals ("law" : Str) = some (some (.ref 282)) from rfl)
    have h2 : mg "law" = some (.ref fa) := hmg
    rw [h1] at h2
    cases h2; rfl
  clear hd hcd hD hmg ho
  wrow_args hpre hlay hrd hwl hlo
  rename Heap.IsList _ _ _ => hL
  rename IntsAre _ _ => hI
  rename ¬ _ => hc
  refine Mine.law_all C T ⟨fun _ _ e => e, Nat.le_refl _⟩ ⟨rfl, by decide, by decide⟩ rfl hL hI (by have := hI.length; omega) fun h' tk hold => ?_
  refine ⟨.inl ⟨.bool true, .bool true, [], rfl, ?_, ?_, ?_, fun _ => ⟨.nil, fun _ q => nomatch q⟩⟩, OldK.of_keep hold, rfl, AllBare.of_eq hg⟩
  · exact raisesW_false (by wrow_none_raised)
  · exact .bool _
  · wrow_post
