import PyProof.Rows.All
import Wide.All
import OpenK.AllK
import Wide.FinOn
import Lean
import PySem.Challenge.RW_nc0035_01
set_option Elab.async false
set_option maxRecDepth 100000
set_option linter.all false
open PySem PySem.W PyProof.Rows PySem.Calls

namespace Mine
abbrev tab0 : Obj := { cls := .none, data := .fields #[] }
/-- a hook that sees one more object -/
def withTab (H : Hook) (a : Addr) : Hook := ⟨H.α × Option Obj, fun s => (H.obs s, s.heap.get? a), fun w => (H.val w, some tab0), fun w h => H.says w h ∧ h.get? a = some tab0, fun w s e => ⟨H.of w s (congrArg Prod.fst e), congrArg Prod.snd e⟩, fun w h h' x k => ⟨H.keeps w h h' x.1 k, k _ _ x.2⟩⟩
/-- the text less its assignments -/
noncomputable def view : Program := { PySem.Challenge.rw_nc0035_01.row.prog with main := { PySem.Challenge.rw_nc0035_01.row.prog.main with body := PySem.Challenge.rw_nc0035_01.row.prog.main.body.filter fun s => match s with | .Assign .. => false | _ => true } }
local macro_rules | `(tactic| o_head $H) => `(tactic| (
  refine holds_open (q := view) (loose := [Str.ofString "Clause", Str.ofString "AssignmentSet"]) (Xt := fun s => xlAt view [] s && recOk (RowW.records PySem.Challenge.rw_nc0035_01.row.toRowW) s) (XP := XL view []) (Yf := Hook.obs (withTab $H 165)) (Ya := Hook.val (withTab $H 165)) (YP := Hook.says (withTab $H 165)) (N := 3878) ?hl (Hook.of _) (Hook.keeps _) (fun s e => xl_of s (Bool.and_eq_true_iff.mp e).1) XL.keeps (by rfl) (by rfl) (by rfl) (fun s e => recFacts_of (Bool.and_eq_true_iff.mp e).2) (by rfl) (by first | assumption | decide +kernel) (by decide +kernel) ⟨rfl, rfl, rfl, rfl, rfl, by decide +kernel⟩ ?hw ?hc
  (case hl => exact fun w => by kernel_rfl)))
set_option maxHeartbeats 8000000 in
open_top hd01 for PySem.Challenge.rw_nc0035_01
end Mine

namespace Mine

abbrev Ld := Addr → Option Obj
def upd (ld : Ld) (a : Addr) (o : Obj) : Ld := fun b => if b = a then some o else ld b
theorem upd_self {ld : Ld} {a : Addr} {o : Obj} : upd ld a o a = some o := by simp [upd]
theorem upd_ne {ld : Ld} {a b : Addr} {o : Obj} (h : b ≠ a) : upd ld a o b = ld b := by simp [upd, h]

/-- everything that ld says is so in h -/
def Led (ld : Ld) (h : Heap) : Prop := ∀ a o, ld a = some o → h.get? a = some o
theorem Led.self (h : Heap) : Led h.get? h := fun _ _ e => e
theorem Led.mono {ld ld' : Ld} {h : Heap} (x : Led ld h) (k : ∀ a o, ld' a = some o → ld a = some o) : Led ld' h := fun a o e => x a o (k a o e)

/-- a frame: its locals at L are m; ld is known of the heap, the base b among it -/
structure Z (b : Heap) (L : Addr) (m : Str → Option Value) (ld : Ld) (h : Heap) : Prop where
  ns : h.Ns L m
  led : Led ld h
  fr : ld L = none
  base : ∀ a o, b.get? a = some o → ld a = some o
  above : b.objs.size ≤ L

/-- base facts for a call -/
structure Bs (b h : Heap) : Prop where
  stays : b.StaysIn h
  size : b.objs.size ≤ h.objs.size

section
variable {b : Heap} {L : Addr} {m : Str → Option Value} {ld : Ld} {h : Heap}
theorem Z.stays (z : Z b L m ld h) : b.StaysIn h := fun a o e => z.led a o (z.base a o e)
theorem Z.bs (z : Z b L m ld h) : Bs b h := ⟨z.stays, Nat.le_of_lt (Nat.lt_of_le_of_lt z.above z.ns.lt)⟩
theorem Z.F (z : Z b L m ld h) : Fr b L h m := ⟨z.ns, z.stays, z.above⟩
theorem Z.neL (z : Z b L m ld h) {a : Addr} {o : Obj} (e : ld a = some o) : a ≠ L := fun q => by rw [q, z.fr] at e; cases e
theorem Z.mono {ld' : Ld} (z : Z b L m ld h) (k : ∀ a o, ld' a = some o → ld a = some o) (hb : ∀ a o, b.get? a = some o → ld' a = some o) : Z b L m ld' h where
  ns := z.ns
  led := z.led.mono k
  fr := by cases e : ld' L with | none => rfl | some o => have := k _ _ e; rw [z.fr] at this; cases this
  base := hb
  above := z.above
theorem Z.store {m' : Str → Option Value} {h' : Heap} (z : Z b L m ld h) (hn : h'.Ns L m') (hs : Heap.SameBut L h h') : Z b L m' ld h' where
  ns := hn
  led := fun a o e => (hs.2 a (z.neL e)).trans (z.led a o e)
  fr := z.fr
  base := z.base
  above := z.above
theorem Z.size_none (z : Z b L m ld h) : ld h.objs.size = none := by
  cases e : ld h.objs.size with
  | none => rfl
  | some o => exact absurd (Heap.lt_size (z.led _ _ e)) (Nat.lt_irrefl _)
theorem Z.push (z : Z b L m ld h) (o : Obj) (hf : o.isFreed = false := by rfl) : Z b L m (upd ld h.objs.size o) (h.push o) where
  ns := z.ns.keeps fun _ _ e => Heap.get?_push_of_some _ e
  led := fun a o' e => by
    by_cases q : a = h.objs.size
    · subst q; rw [upd_self] at e; cases e; exact Heap.get?_push_size _ hf
    · rw [upd_ne q] at e; exact Heap.get?_push_of_some _ (z.led a o' e)
  fr := by rw [upd_ne (Nat.ne_of_lt z.ns.lt)]; exact z.fr
  base := fun a o' e => by rw [upd_ne (Nat.ne_of_lt (Heap.lt_size (z.stays a o' e)))]; exact z.base a o' e
  above := z.above
/-- heap grows, nothing known turns -/
theorem Z.ext {h' : Heap} (z : Z b L m ld h) (k : ∀ a o, h.get? a = some o → h'.get? a = some o) : Z b L m ld h' where
  ns := z.ns.keeps k
  led := fun a o e => k _ _ (z.led a o e)
  fr := z.fr
  base := z.base
  above := z.above
/-- all but a is as it was, a is o' -/
theorem Z.turn {h' : Heap} {a : Addr} {o o' : Obj} (z : Z b L m ld h) (e : ld a = some o) (hb : b.get? a = none)
    (k : ∀ c oc, c ≠ a → h.get? c = some oc → h'.get? c = some oc) (e' : h'.get? a = some o') : Z b L m (upd ld a o') h' where
  ns := z.ns.at' fun oc ec => k _ oc (fun q => z.neL e q.symm) ec
  led := fun c oc ec => by
    by_cases q : c = a
    · subst q; rw [upd_self] at ec; cases ec; exact e'
    · rw [upd_ne q] at ec; exact k _ _ q (z.led _ _ ec)
  fr := by rw [upd_ne fun q => z.neL e q.symm]; exact z.fr
  base := fun c oc ec => by
    by_cases q : c = a
    · subst q; rw [hb] at ec; cases ec
    · rw [upd_ne q]; exact z.base c oc ec
  above := z.above
theorem Z.sameBut {h' : Heap} {a : Addr} {o o' : Obj} (z : Z b L m ld h) (e : ld a = some o) (hb : b.get? a = none)
    (hs : Heap.SameBut a h h') (e' : h'.get? a = some o') : Z b L m (upd ld a o') h' :=
  z.turn e hb (fun c oc q ec => (hs.2 c q).trans ec) e'
/-- behind a call that turned a alone -/
theorem Z.call {h' : Heap} {a : Addr} {o o' : Obj} (z : Z b L m ld h) (e : ld a = some o) (hb : b.get? a = none) (c : Led (upd h.get? a o') h') : Z b L m (upd ld a o') h' :=
  z.turn e hb (fun x ox q ex => c x ox ((upd_ne q).trans ex)) (c a o' upd_self)
theorem Z.call0 {h' : Heap} (z : Z b L m ld h) (c : Led h.get? h') : Z b L m ld h' := z.ext c
end

abbrev sh (s : Shared) (h : Heap) (t : Nat) : Shared := { s with heap := h, toks := t }

/-- room above -/
structure Room (A : Around) (n : Nat) : Prop where
  handled : A.handled = none
  depth : A.depth + n ≤ 900
  units : A.units + 10 * n ≤ 9000
theorem Room.deeper {A : Around} {n : Nat} (r : Room A (n + 1)) (env : Env) : Room (A.deeper env) n :=
  ⟨r.handled, by have := r.depth; show A.depth + 1 + n ≤ 900; omega, by have := r.units; show A.units + 3 + 10 * n ≤ 9000; omega⟩
theorem Room.room {A : Around} {n : Nat} (r : Room A n) : A.depth < recursionLimit := by have := r.depth; show A.depth < 1000; omega
theorem Room.unit {A : Around} {n : Nat} (r : Room A n) : A.units < cLine := by have := r.units; show A.units < 9900; omega
theorem Room.le {A : Around} {n k : Nat} (r : Room A n) (h : k ≤ n) : Room A k := ⟨r.handled, by have := r.depth; omega, by have := r.units; omega⟩

end Mine

namespace Mine

structure Cx (K : Frag) (mg mb : Str → Option Value) (b : Heap) : Prop where
  X : K.In b
  g : b.Ns mainGlobals mg
  bb : b.Ns builtinsNs mb
  nolimit : b.NoLimit
  builtins : ∀ x : Str, x ≠ "__name__" → mb x = bootBuiltins x

structure EnvIs (env : Env) (sc : Scope) (L : Addr) : Prop where
  scope : env.scope = sc
  locals : env.locals = L
  globals : env.globals = mainGlobals
  builtins : env.builtins = builtinsNs
  kind : sc.kind = .function

theorem EnvIs.kindOf {env : Env} {sc : Scope} {L : Addr} (e : EnvIs env sc L) {x : Str} {k : NameKind} (h : sc.names.lookup x = some k) : env.kindOf x = some k := by
  unfold Env.kindOf; rw [e.scope]; exact h
theorem EnvIs.fn {env : Env} {sc : Scope} {L : Addr} (e : EnvIs env sc L) : env.scope.kind = .function := by rw [e.scope]; exact e.kind
theorem EnvIs.plain {env : Env} {sc : Scope} {L : Addr} (e : EnvIs env sc L) : (env.scope.kind == .class || (env.scope.kind == .module && env.locals != env.globals)) = false := by rw [e.fn]; rfl
theorem EnvIs.still {env : Env} {sc : Scope} {L : Addr} (e : EnvIs env sc L) : interactive env = false := by unfold interactive; rw [e.fn]; rfl

section
variable {prog : Program} {w : World} {A : Around} {E : Value → Shared → Prop} {s : Shared} {K : Frag} {mg mb : Str → Option Value} {b : Heap} {L : Addr} {m : Str → Option Value} {ld : Ld} {env : Env} {sc : Scope}

theorem ev_loc {x : Str} {pos : Pos} {v : Value} {Q : Value → Shared → Prop} (e : EnvIs env sc L) (z : Z b L m ld s.heap) (hv : m x = some v) (h : Q v s)
    (hl : sc.names.lookup x = some .local := by rfl) (hd : (x == ("__debug__" : Str)) = false := by decide) : wpAny (model prog w) A (eval (.Name x pos) env) Q E s :=
  wpAny_Name (wpAny_loadName_local e.fn (e.kindOf hl) (e.locals ▸ z.ns) hv h) hd

theorem ev_glob {x : Str} {pos : Pos} {v : Value} {Q : Value → Shared → Prop} (e : EnvIs env sc L) (C : Cx K mg mb b) (z : Z b L m ld s.heap) (hv : nsIn K mainGlobals x = some (some v)) (h : Q v s)
    (hl : sc.names.lookup x = some .globalImplicit := by rfl) (hd : (x == ("__debug__" : Str)) = false := by decide) : wpAny (model prog w) A (eval (.Name x pos) env) Q E s :=
  Calls.Name_function_global e.fn (e.kindOf hl) (Calls.loadGlobal_global (mg := mg) (e.globals ▸ C.g.keeps z.stays) (mg_of C.X C.g hv) h) hd

theorem ev_bi {x : Str} {pos : Pos} {v : Value} {Q : Value → Shared → Prop} (e : EnvIs env sc L) (C : Cx K mg mb b) (z : Z b L m ld s.heap) (hn : nsIn K mainGlobals x = some none) (hv : bootBuiltins x = some v) (h : Q v s)
    (hne : x ≠ "__name__" := by decide) (hl : sc.names.lookup x = some .globalImplicit := by rfl) (hd : (x == ("__debug__" : Str)) = false := by decide) : wpAny (model prog w) A (eval (.Name x pos) env) Q E s :=
  Calls.Name_function_global e.fn (e.kindOf hl) (Calls.loadGlobal_builtin (mg := mg) (mb := mb) (e.globals ▸ C.g.keeps z.stays) (mg_none_of C.X C.g hn) (e.builtins ▸ C.bb.keeps z.stays) ((C.builtins x hne).trans hv) h) hd

theorem st_loc {x : Str} {v : Value} {Q : Unit → Shared → Prop} (e : EnvIs env sc L) (z : Z b L m ld s.heap)
    (h : ∀ h', Z b L (fun y => if y = x then some v else m y) ld h' → Q () { s with heap := h', toks := s.toks + 1 })
    (hl : sc.names.lookup x = some .local := by rfl) : wpAny (model prog w) A (storeName env x v) Q E s := by
  obtain rfl := e.locals
  exact wpAny_storeName_local (e.kindOf hl) z.ns (fun h' hn hs => h h' (z.store hn hs)) e.plain

/-- enter a def of the text -/
theorem enter {n : Nat} {f : Addr} {oc : Value} {od : Option Addr} {osl : Array (Option Value)} {fd : FuncData} {body : List Stmt} {pos : List Value} {kw : List (Str × Value)} {binds : List (Str × Value)} {Q : Value → Shared → Prop}
    (C : Cx K mg mb b) (hB : Bs b s.heap) (r : Room A (n + 1)) (ho : K.lookup f = some ⟨oc, od, .func fd, osl⟩) (hcd : codeIn K fd.code fd.qualname = true)
    (hbody : fd.body = .stmts body) (hbind : BindsTo s fd ⟨pos, kw⟩ binds)
    (hcell : (fd.scope.names.all fun x => decide (x.2 ≠ .cell)) = true) (hloc : (binds.all fun x => decide (fd.scope.names.lookup x.1 = some .local)) = true)
    (hg : fd.globals = mainGlobals) (hbu : fd.builtins = builtinsNs) (hcl : fd.closure = []) (hco : fd.scope.isCoroutine = false) (hgen : fd.scope.isGenerator = false) (hk : fd.scope.kind = .function)
    (h : ∀ A' env L h₁ tk, Room A' n → EnvIs env fd.scope L → Z b L (fun x => binds.reverse.lookup x) s.heap.get? h₁ →
      wpAny (model prog w) A' (execs body env) (fun fl s' => Q (match fl with | .ret v => v | _ => .none) s') (fun _ _ => False) { s with heap := h₁, toks := tk }) :
    wpAny (model prog w) A (call (.ref f) pos kw) Q E s := by
  refine wpAny_call ?_
  have hX := C.X.keeps hB.stays
  refine codeAny_call_def (fd := fd) r.room (hX _ _ ho) rfl (C.nolimit.keeps hB.stays) (codeRec_of hX hcd) hbody hbind (fun x hx => of_decide_eq_true (List.all_eq_true.mp hcell x hx)) (fun x hx => of_decide_eq_true (List.all_eq_true.mp hloc x hx)) ?_ hco hgen hk
  intro h₁ hns hk₁
  refine wpAny_mono (h _ (callEnv fd s.heap.objs.size f) s.heap.objs.size h₁ _ (r.deeper _) ⟨rfl, rfl, hg, hbu, hk⟩ ⟨hns, hk₁, ?_, hB.stays, hB.size⟩) (fun fl s' q => ?_) fun _ _ x => x.elim
  · cases e : s.heap.get? s.heap.objs.size with
    | none => rfl
    | some o => exact absurd (Heap.lt_size e) (Nat.lt_irrefl _)
  · cases fl <;> exact q
end
end Mine

namespace Mine

section
variable {prog : Program} {w : World} {A : Around} {E : Value → Shared → Prop} {s : Shared} {K : Frag} {mg mb : Str → Option Value} {b : Heap} {L : Addr} {m : Str → Option Value} {ld : Ld} {env : Env} {sc : Scope}

theorem Z.lt (z : Z b L m ld s.heap) {a : Addr} {o : Obj} (e : ld a = some o) : @LT.lt Nat _ a s.heap.objs.size := Heap.lt_size (z.led _ _ e)
theorem Z.blt (z : Z b L m ld s.heap) {a : Addr} {o : Obj} (e : b.get? a = some o) : @LT.lt Nat _ a s.heap.objs.size := Heap.lt_size (z.stays _ _ e)
theorem ne_of_lt1 {a n : Nat} (h : a < n) : (a : Addr) ≠ n := Nat.ne_of_lt h
theorem ne_of_lt2 {a n : Nat} (h : a < n) : (a : Addr) ≠ n + 1 := Nat.ne_of_lt (Nat.lt_succ_of_lt h)
theorem Z.none1 (z : Z b L m ld s.heap) : ld (s.heap.objs.size + 1) = none := by
  cases q : ld (s.heap.objs.size + 1) with
  | none => rfl
  | some o => exact absurd rfl (ne_of_lt2 (z.lt q))

theorem inst_at (z : Z b L m ld s.heap) {x Cl dx : Addr} {es : List DictEntry} {n : Nat} (hc : ld x = some (instObj Cl dx)) (hd : ld dx = some (dictOf es n)) : W.InstAt s.heap x (instObj Cl dx) Cl (some (dictOf es n)) :=
  ⟨z.led _ _ hc, rfl, rfl, z.led _ _ hd⟩

/-- an attribute of an object's own -/
theorem ga_own {x Cl dx : Addr} {es : List DictEntry} {n : Nat} {name : Str} {v : Value} {expr : Bool} {Q : Value → Shared → Prop} (C : Cx K mg mb b) (z : Z b L m ld s.heap)
    (hc : ld x = some (instObj Cl dx)) (hd : ld dx = some (dictOf es n)) (hl : getL name es = some (some v))
    (hg : plainGet K Cl name = true) (hh : hasDictIn K Cl = true) (ha : findIn K (.ref Cl) name = some none) (hv : handedIn v = true)
    (h : Q v { s with toks := s.toks + 1 }) : wpAny (model prog w) A (getAttr (.ref x) name expr) Q E s :=
  get_own z.F C.X (inst_at z hc hd) hg hh ha rfl hl hv h

/-- a method of an object -/
theorem gm_inst {x Cl dx f : Addr} {es : List DictEntry} {n : Nat} {name : Str} {pl : Sem Bool} {Q : Value × List Value → Shared → Prop} (C : Cx K mg mb b) (z : Z b L m ld s.heap)
    (hc : ld x = some (instObj Cl dx)) (hd : ld dx = some (dictOf es n)) (hl : getL name es = some none)
    (hg : plainGet K Cl name = true) (hf : findIn K (.ref Cl) name = some (some (.ref f))) (ht : isFn K (.ref f) = true)
    (h : Q (.ref f, [.ref x]) s) : wpAny (model prog w) A (getMethod (.ref x) name pl) Q E s :=
  method_inst z.F C.X (inst_at z hc hd) hg hf ht hl h

/-- calling a def or class of the text with arguments -/
theorem cw_K {f : Value} {first : List Value} {e : Expr} {rest : List Expr} {pos : Pos} {Q : Value → Shared → Prop} (C : Cx K mg mb b) (hk : keepIn K f = true)
    (h : wpAny (model prog w) A (spliced (backTo pos (starEach (e :: rest) env))) (fun vs s₁ => b.StaysIn s₁.heap ∧ wpAny (model prog w) A (call f (first ++ vs)) Q E s₁) E s)
    (he : starEach (e :: rest) env = (false, eval e env) :: starEach rest env := by rfl) (hplain : (backTo pos (starEach rest env)).any (·.1) = false := by rfl) :
    wpAny (model prog w) A (callWith pos f first (backTo pos (starEach (e :: rest) env)) []) Q E s :=
  callWith_K C.X hk (wpAny_mono h (fun _ _ x => ⟨C.X.keeps x.1, x.2⟩) fun _ _ x => x) he hplain
theorem cw_K0 {f : Value} {first : List Value} {pos : Pos} {Q : Value → Shared → Prop} (C : Cx K mg mb b) (z : Z b L m ld s.heap) (hk : keepIn K f = true) (h : wpAny (model prog w) A (call f (first ++ [])) Q E s) :
    wpAny (model prog w) A (callWith pos f first (backTo pos (starEach [] env)) []) Q E s :=
  callWith_K0 (C.X.keeps z.stays) hk h

theorem Z.isList (z : Z b L m ld s.heap) {l : Addr} {its : Array Value} {n : Nat} (hl : ld l = some (listOf its n)) : s.heap.IsList l its := ⟨_, z.led _ _ hl, rfl, n, rfl⟩

theorem in_ints {l : Addr} {vs : List Value} {n : Nat} {ns : List Int} {k : Int} {t : Tok} {Q : Value → Shared → Prop} (z : Z b L m ld s.heap) (hl : ld l = some (listOf vs.toArray n)) (hi : IntsAre vs ns)
    (h : Q (.bool (decide (k ∈ ns))) s) : wpAny (model prog w) A (compareOp .In (.int k t) (.ref l)) Q E s := by
  refine in_list_ints (z.isList hl) hi ?_
  rw [show (ns.any fun x => x == k) = decide (k ∈ ns) from by rw [Bool.eq_iff_iff]; simp]; exact h
theorem notin_ints {l : Addr} {vs : List Value} {n : Nat} {ns : List Int} {k : Int} {t : Tok} {Q : Value → Shared → Prop} (z : Z b L m ld s.heap) (hl : ld l = some (listOf vs.toArray n)) (hi : IntsAre vs ns)
    (h : Q (.bool (decide (k ∉ ns))) s) : wpAny (model prog w) A (compareOp .NotIn (.int k t) (.ref l)) Q E s := by
  refine notin_list_ints (z.isList hl) hi ?_
  rw [show (!ns.any fun x => x == k) = decide (k ∉ ns) from by rw [Bool.eq_iff_iff]; simp; exact ⟨fun h q => h _ q rfl, fun h x hx e => h (e ▸ hx)⟩]; exact h

/-- x[k:] and x[:k] for a list in a local name -/
theorem ev_from {x : Str} {px p1 p2 p3 : Pos} {l : Addr} {vs : List Value} {n k : Nat} {j : Nat} {Q : Value → Shared → Prop} (e : EnvIs env sc L) (z : Z b L m ld s.heap) (hx : m x = some (.ref l)) (hl : ld l = some (listOf vs.toArray n))
    (hsz : vs.length ≤ 1000)
    (h : ∀ a h' tk, ld a = none → Z b L m (upd ld a (listOf (vs.drop k).toArray 0)) h' → Q (.ref a) { s with heap := h', toks := tk })
    (hn : sc.names.lookup x = some .local := by rfl) (hd : (x == ("__debug__" : Str)) = false := by decide) :
    wpAny (model prog w) A (eval (.Subscript (.Name x px) (.Slice (some (.Constant (.int k) j p1)) none none p2) p3) env) Q E s := by
  refine Subscript_ (ev_loc e z hx ?_ hn hd)
  refine wpAny_Slice (evalPart_some_step (wpAny_Constant_int (evalPart_none_step (evalPart_none_step ?_))))
  refine slice_listK (s := { s with toks := s.toks + 1 }) (z.isList hl) (.int k s.toks) .none ?_ (hsz := by rw [List.size_toArray]; exact Nat.le_trans hsz (by decide))
  have z1 := z.push { cls := .type "slice", data := .fields #[.int k s.toks, .none, .none] }
  have z2 := z1.push { cls := .type "list", data := .seq (slicePick vs.toArray (some k) none none) }
  rw [Heap.size_push] at z2
  refine h _ _ _ ?_ (z2.mono (fun a o q => ?_) fun a o q => ?_)
  · exact z.none1
  · by_cases q1 : a = s.heap.objs.size + 1
    · subst q1; rw [upd_self] at q ⊢; rw [← q, slicePick_from']
    · rw [upd_ne q1] at q ⊢
      rw [upd_ne (ne_of_lt1 (z.lt q))]; exact q
  · rw [upd_ne (ne_of_lt2 (z.blt q))]; exact z.base _ _ q
theorem ev_upto {x : Str} {px p1 p2 p3 : Pos} {l : Addr} {vs : List Value} {n k : Nat} {j : Nat} {Q : Value → Shared → Prop} (e : EnvIs env sc L) (z : Z b L m ld s.heap) (hx : m x = some (.ref l)) (hl : ld l = some (listOf vs.toArray n))
    (hsz : vs.length ≤ 1000)
    (h : ∀ a h' tk, ld a = none → Z b L m (upd ld a (listOf (vs.take k).toArray 0)) h' → Q (.ref a) { s with heap := h', toks := tk })
    (hn : sc.names.lookup x = some .local := by rfl) (hd : (x == ("__debug__" : Str)) = false := by decide) :
    wpAny (model prog w) A (eval (.Subscript (.Name x px) (.Slice none (some (.Constant (.int k) j p1)) none p2) p3) env) Q E s := by
  refine Subscript_ (ev_loc e z hx ?_ hn hd)
  refine wpAny_Slice (evalPart_none_step (evalPart_some_step (wpAny_Constant_int (evalPart_none_step ?_))))
  refine slice_listK (s := { s with toks := s.toks + 1 }) (z.isList hl) .none (.int k s.toks) ?_ (hsz := by rw [List.size_toArray]; exact Nat.le_trans hsz (by decide))
  have z1 := z.push { cls := .type "slice", data := .fields #[.none, .int k s.toks, .none] }
  have z2 := z1.push { cls := .type "list", data := .seq (slicePick vs.toArray none (some k) none) }
  rw [Heap.size_push] at z2
  refine h _ _ _ ?_ (z2.mono (fun a o q => ?_) fun a o q => ?_)
  · exact z.none1
  · by_cases q1 : a = s.heap.objs.size + 1
    · subst q1; rw [upd_self] at q ⊢; rw [← q, slicePick_upto']
    · rw [upd_ne q1] at q ⊢
      rw [upd_ne (ne_of_lt1 (z.lt q))]; exact q
  · rw [upd_ne (ne_of_lt2 (z.blt q))]; exact z.base _ _ q

/-- an int item of a list -/
theorem it_int {value slice : Expr} {l : Addr} {vs : List Value} {n : Nat} {ns : List Int} {k : Int} {u : Tok} {v : Int} {Q : Value → Shared → Prop} (z : Z b L m ld s.heap) (hl : ld l = some (listOf vs.toArray n)) (hi : IntsAre vs ns)
    (hk : ns[k.toNat]? = some v) (h0 : 0 ≤ k) (h1 : k < 1000) (h : ∀ t, Q (.int v t) s)
    (hs : subscripted slice false (.ref l) (.int k u) = operate [.ref l, .int k u] (getItem (.ref l) (.int k u)) := by with_unfolding_all rfl)
    (ht : ∀ r, letTemporaryGo value (.ref l) r = pure () := by intro _; with_unfolding_all rfl) :
    wpAny (model prog w) A (subscriptTail value slice (.ref l) (.int k u)) Q E s := by
  obtain ⟨hlt, hv⟩ := List.getElem?_eq_some_iff.mp hk
  refine item_list_ints (z.isList hl) hi h0 (by omega) (by omega) (fun t => ?_) hs ht
  rw [List.getD_eq_getElem?_getD, hk]; exact h t
end
end Mine

namespace Mine

def New (b : Heap) (a : Addr) : Prop := b.objs.size ≤ a
theorem New.none {b : Heap} {a : Addr} (h : New b a) : b.get? a = none := by
  cases e : b.get? a with
  | none => rfl
  | some o => exact absurd (Heap.lt_size e) (Nat.not_lt.mpr h)
theorem Cx.notSys {K : Frag} {mg mb : Str → Option Value} {b : Heap} (C : Cx K mg mb b) {d : Addr} (h : New b d) : (d == sysModules) = false := by
  have h3 : @LT.lt Nat _ 3 b.objs.size := C.g.lt
  have h4 : @LE.le Nat _ b.objs.size d := h
  have : d ≠ sysModules := by intro q; rw [q] at h4; have : @LE.le Nat _ b.objs.size 1 := h4; omega
  simpa using this

theorem valueAt_stored {K : Type} [DecidableEq K] (kvs : List (K × Value)) (k x : K) (v : Value) : valueAt (stored kvs k v) x = if x = k then some v else valueAt kvs x := by
  unfold stored valueAt
  split
  · rename_i h
    induction kvs with
    | nil => simp at h
    | cons p r ih =>
      obtain ⟨a, u⟩ := p
      by_cases hx : x = k
      · subst hx
        by_cases ha : a = x
        · subst ha; simp
        · simp only [List.any_cons, ha, decide_false, Bool.false_or] at h
          have := ih h
          simp only [if_true] at this
          simp only [List.map_cons, ha, if_false, List.find?_cons, decide_false, if_true]
          exact this
      · simp only [if_neg hx]
        by_cases ha : a = k
        · subst ha
          have hax : ¬ a = x := fun e => hx e.symm
          have hrest : ∀ r : List (K × Value), ((r.map fun kv => if kv.1 = a then (kv.1, v) else kv).find? fun kv => decide (kv.1 = x)).map (·.2) = (r.find? fun kv => decide (kv.1 = x)).map (·.2) := by
            intro r
            induction r with
            | nil => rfl
            | cons q r ih =>
              obtain ⟨c, u'⟩ := q
              by_cases hc : c = a
              · subst hc; simp only [List.map_cons, if_true, List.find?_cons, hax, decide_false]; exact ih
              · by_cases hcx : c = x
                · subst hcx; simp [hc]
                · simp only [List.map_cons, hc, if_false, List.find?_cons, hcx, decide_false]; exact ih
          simp only [List.map_cons, if_true, List.find?_cons, hax, decide_false]
          exact hrest r
        · simp only [List.any_cons, ha, decide_false, Bool.false_or] at h
          have := ih h
          simp only [if_neg hx] at this
          by_cases hax : a = x
          · subst hax; simp [ha]
          · simp only [List.map_cons, ha, if_false, List.find?_cons, hax, decide_false]; exact this
  · rename_i h
    by_cases hx : x = k
    · subst hx
      have : kvs.find? (fun kv => decide (kv.1 = x)) = none := by
        rw [List.find?_eq_none]; intro kv hkv e; exact h (List.any_eq_true.mpr ⟨kv, hkv, e⟩)
      simp [List.find?_append, this]
    · have : ([(k, v)] : List (K × Value)).find? (fun kv => decide (kv.1 = x)) = none := by simp [Ne.symm hx]
      simp [List.find?_append, this, hx]
theorem valueAt_without {K : Type} [DecidableEq K] (kvs : List (K × Value)) (k x : K) : valueAt (without kvs k) x = if x = k then none else valueAt kvs x := by
  unfold without valueAt
  rw [List.find?_filter]
  by_cases hx : x = k
  · subst hx; simp
  · simp only [if_neg hx]
    congr 2
    funext kv
    by_cases h : kv.1 = x
    · subst h; simp [hx]
    · simp [h]
theorem without_length {K : Type} [DecidableEq K] (kvs : List (K × Value)) (k : K) : (without kvs k).length ≤ kvs.length := List.length_filter_le _ _

section
variable {prog : Program} {w : World} {A : Around} {E : Value → Shared → Prop} {s : Shared} {K : Frag} {mg mb : Str → Option Value} {b : Heap} {L : Addr} {m : Str → Option Value} {ld : Ld} {env : Env} {sc : Scope}
  {d : Addr} {o : Obj} {kvs : List (Int × Value)} {i : Int} {t : Tok}

theorem dictAt (z : Z b L m ld s.heap) (hd : ld d = some o) (hk : o.IsDictOf (intKind prog w) kvs) : s.heap.DictOf (intKind prog w) d kvs := Heap.dictOf_iff.mpr ⟨o, z.led _ _ hd, hk⟩

theorem dm_get {pl : Sem Bool} {Q : Value × List Value → Shared → Prop} (z : Z b L m ld s.heap) (hd : ld d = some o) (hk : o.IsDictOf (intKind prog w) kvs) (h : Q (.builtin "dict.get", [.ref d]) s) :
    wpAny (model prog w) A (getMethod (.ref d) "get" pl) Q E s :=
  getMethod_builtin (dictAt z hd hk).typeIs PySem.F.plainAttrs_dict PySem.F.slot_dict_get PySem.F.type_dict_get (dictAt z hd hk).mapOf.noDict h
theorem dm_setdefault {pl : Sem Bool} {Q : Value × List Value → Shared → Prop} (z : Z b L m ld s.heap) (hd : ld d = some o) (hk : o.IsDictOf (intKind prog w) kvs) (h : Q (.builtin "dict.setdefault", [.ref d]) s) :
    wpAny (model prog w) A (getMethod (.ref d) "setdefault" pl) Q E s :=
  getMethod_builtin (dictAt z hd hk).typeIs PySem.F.plainAttrs_dict PySem.F.slot_dict_setdefault PySem.F.type_dict_setdefault (dictAt z hd hk).mapOf.noDict h

theorem d_get {Q : Value → Shared → Prop} (C : Cx K mg mb b) (z : Z b L m ld s.heap) (hd : ld d = some o) (hn : New b d) (hk : o.IsDictOf (intKind prog w) kvs)
    (h : Q ((valueAt kvs i).getD .none) { s with toks := s.toks + 1 }) : wpAny (model prog w) A (call (.builtin "dict.get") [.ref d, .int i t]) Q E s :=
  call_meetsIn PySem.F.slot_dict_get (dictAt z hd hk).typeIs PySem.F.entry_dict_get (PySem.F.args_dict_get_2 _ _) (meets_dict_get (intKind prog w) d (intKind_is prog w i t) (C.notSys hn)) ⟨_, (dictAt z hd hk).mapOf, h⟩
theorem d_in {Q : Value → Shared → Prop} (C : Cx K mg mb b) (z : Z b L m ld s.heap) (hd : ld d = some o) (hn : New b d) (hk : o.IsDictOf (intKind prog w) kvs)
    (h : Q (.bool (valueAt kvs i).isSome) { s with toks := s.toks + 1 }) : wpAny (model prog w) A (compareOp .In (.int i t) (.ref d)) Q E s :=
  wpAny_in_of (intKind_is prog w i t) (C.notSys hn) (dictAt z hd hk).mapOf h
theorem d_notin {Q : Value → Shared → Prop} (C : Cx K mg mb b) (z : Z b L m ld s.heap) (hd : ld d = some o) (hn : New b d) (hk : o.IsDictOf (intKind prog w) kvs)
    (h : Q (.bool (!(valueAt kvs i).isSome)) { s with toks := s.toks + 1 }) : wpAny (model prog w) A (compareOp .NotIn (.int i t) (.ref d)) Q E s :=
  wpAny_notIn_of (intKind_is prog w i t) (C.notSys hn) (dictAt z hd hk).mapOf h
theorem d_set {v : Value} {Q : Unit → Shared → Prop} (z : Z b L m ld s.heap) (hd : ld d = some o) (hn : New b d) (hk : o.IsDictOf (intKind prog w) kvs)
    (h : ∀ h' o', Z b L m (upd ld d o') h' → o'.IsDictOf (intKind prog w) (stored kvs i v) → Q () { s with heap := h', toks := s.toks + 1 }) (hsz : kvs.length ≤ 1000) :
    wpAny (model prog w) A (setItem (.ref d) (.int i t) v) Q E s := by
  refine wpAny_setItem_pairs (intKind_is prog w i t) (dictAt z hd hk) (fun h' hm hs => ?_) (Nat.le_trans hsz (by decide))
  obtain ⟨o', ho', hk'⟩ := Heap.dictOf_iff.mp hm
  exact h h' o' (z.sameBut hd hn.none hs ho') hk'
theorem d_del {Q : Unit → Shared → Prop} (z : Z b L m ld s.heap) (hd : ld d = some o) (hn : New b d) (hk : o.IsDictOf (intKind prog w) kvs) (hthere : (valueAt kvs i).isSome = true)
    (h : ∀ h' o', Z b L m (upd ld d o') h' → o'.IsDictOf (intKind prog w) (without kvs i) → Q () { s with heap := h', toks := s.toks + 1 }) (hsz : kvs.length ≤ 1000) :
    wpAny (model prog w) A (delItem (.ref d) (.int i t)) Q E s := by
  have hD := dictAt (prog := prog) (w := w) z hd hk
  unfold delItem
  try with_reducible refine wpAny_holding ?_
  refine wpAny_bind (wpAny_sequenceKey hD.typeIs (by decide) ?_)
  refine wpAny_bind (wpAny_callSpecial?_slot (name := Str.ofString "__delitem__") hD.typeIs PySem.F.slot_dict_delitem
    (call_meetsIn PySem.F.slot_dict_delitem hD.typeIs PySem.F.entry_dict_delitem (PySem.F.args_dict_delitem_2 _ _) (meets_dict_delitem_pairs (intKind prog w) d (intKind_is prog w i t)) ⟨kvs, hD, Nat.le_trans hsz (by decide), hthere, fun h' hmm hs => ?_⟩))
  obtain ⟨o', ho', hd'⟩ := Heap.dictOf_iff.mp hmm
  exact wpAny_pure (h h' o' (z.sameBut hd hn.none hs ho') hd')

theorem setdefault_pairs {dflt : Value} {Q : Value → Shared → Prop} (hm : s.heap.DictOf (intKind prog w) d kvs)
    (hthere : ∀ v, valueAt kvs i = some v → Q v { s with toks := s.toks + 1 })
    (hnew : valueAt kvs i = none → ∀ h', h'.DictOf (intKind prog w) d (stored kvs i dflt) → Heap.SameBut d s.heap h' → Q dflt { s with heap := h', toks := s.toks + 1 })
    (hsz : kvs.length ≤ sizeLine) : wpAny (model prog w) A (dictSetDefault d (.int i t) dflt) Q E s := by
  have hkey := intKind_is prog w i t
  have hmap := hm.mapOf
  obtain ⟨o, es, ep, ho, hc, hd, hk, hp, hn⟩ := hm
  have hes : es.size ≤ sizeLine := by have e1 := hp.length; have e2 : es.toList.length = es.size := by simp
                                      omega
  unfold dictSetDefault
  try with_reducible refine wpAny_holding ?_
  refine wpAny_bind ((intKind prog w).pyHash hkey ?_)
  refine wpAny_bind (wpAny_dictFind_of (s := { s with toks := s.toks + 1 }) hkey ho hd hk ?_)
  have hfind : ∀ k, findBy (intKind prog w).is es k = valueAt kvs k := by
    intro k
    obtain ⟨o2, es2, ep2, ho2, _, hd2, _, hf2⟩ := hmap
    rw [ho] at ho2; cases ho2; rw [hd] at hd2; cases hd2; exact hf2 k
  have hidx : (es.findIdx? fun e => (intKind prog w).is i e.key) = kvs.findIdx? fun kv => decide (kv.1 = i) := by
    rw [← hp.findIdx i]; obtain ⟨l⟩ := es; simp
  cases hi : es.findIdx? fun e => (intKind prog w).is i e.key with
  | some j =>
    have hfk : valueAt kvs i = (es[j]?).map (·.val) := by rw [← hfind i, findBy_of_findIdx?, hi]
    refine wpAny_bind (wpAny_dictEntries (s := { s with toks := s.toks + 1 }) ho hd ?_)
    cases he : es[j]? with
    | none =>
      exfalso
      have := Array.findIdx?_eq_some_iff_findIdx_eq.mp hi
      have hlt : j < es.size := this.1
      rw [Array.getElem?_eq_getElem hlt] at he
      exact nomatch he
    | some e =>
      rw [he] at hfk
      exact wpAny_bind (wpAny_rule (wpAny_pure (hthere e.val hfk)))
  | none =>
    have hfk : valueAt kvs i = none := by rw [← hfind i, findBy_of_findIdx?, hi]
    have hnot : i ∉ kvs.map (·.1) := not_mem_of_findIdx_none (hidx ▸ hi)
    have hany : ¬ (kvs.any fun kv => decide (kv.1 = i)) = true := by
      rw [List.any_eq_true]; rintro ⟨kv, hkv, he⟩
      exact hnot (List.mem_map.mpr ⟨kv, hkv, of_decide_eq_true he⟩)
    refine wpAny_bind (wpAny_rule (wpAny_bind (wpAny_updateDictKeys (hz := hes) (s := { s with toks := s.toks + 1 }) ho hd (wpAny_pure (hnew hfk _ ⟨_, _, ep + 1, Heap.get?_update_self _ ho (Obj.isFreed_of_dict (Obj.data_mapDictKeys hd _)),
      hc.mapDictKeys _, Obj.data_mapDictKeys hd _, hk.push hkey _, ?_, ?_⟩ (Heap.SameBut.update ..))))))
    · rw [stored, if_neg hany]
      have := hp.append hkey ((intKind prog w).hash i) dflt
      obtain ⟨l⟩ := es
      simpa using this
    · rw [stored, if_neg hany, List.map_append, List.nodup_append]
      refine ⟨hn, by simp, ?_⟩
      intro a ha b hb
      simp only [List.map_cons, List.map_nil, List.mem_singleton] at hb
      subst hb
      exact fun e => hnot (e ▸ ha)

theorem d_setdefault {dflt : Value} {Q : Value → Shared → Prop} (C : Cx K mg mb b) (z : Z b L m ld s.heap) (hd : ld d = some o) (hn : New b d) (hk : o.IsDictOf (intKind prog w) kvs)
    (h : ∀ h' o' kvs' v, Z b L m (upd ld d o') h' → o'.IsDictOf (intKind prog w) kvs' → (valueAt kvs i = some v ∧ kvs' = kvs ∨ v = dflt ∧ kvs' = stored kvs i dflt) → Q v { s with heap := h', toks := s.toks + 1 }) (hsz : kvs.length ≤ 1000) :
    wpAny (model prog w) A (call (.builtin "dict.setdefault") [.ref d, .int i t, dflt]) Q E s := by
  have hD := dictAt (prog := prog) (w := w) z hd hk
  refine call_meetsIn (S := fun A R s => ∃ (_ : s.heap.DictOf (intKind prog w) d kvs), (∀ v, valueAt kvs i = some v → R (.ok (.ret v)) { s with toks := s.toks + 1 }) ∧
      (valueAt kvs i = none → ∀ h', h'.DictOf (intKind prog w) d (stored kvs i dflt) → Heap.SameBut d s.heap h' → R (.ok (.ret dflt)) { s with heap := h', toks := s.toks + 1 }))
    PySem.F.slot_dict_setdefault hD.typeIs PySem.F.entry_dict_setdefault (PySem.F.args_dict_setdefault_3 _ _ _) ?_ ?_
  · refine .of_wp fun A R s ⟨hm, h1, h2⟩ => ?_
    unfold Builtin.«dict.setdefault»
    refine wpAny_bind ?_
    unfold Builtin.Dict.keyAndDefault
    refine wpAny_bind (wpAny_notOrdered_dict hm.typeIs ?_)
    show wpAny _ _ (pure (d, _, some dflt)) _ _ s
    refine wpAny_pure ?_
    show wpAny _ _ (if (d == sysModules) = true then _ else (dictSetDefault d _ dflt >>= _)) _ _ s
    rw [if_neg (by rw [C.notSys hn]; exact Bool.false_ne_true)]
    exact wpAny_bind (setdefault_pairs (hsz := Nat.le_trans hsz (by decide)) hm (fun v hv => wpAny_pure ⟨v, rfl, h1 v hv⟩) fun hn h' hm' hs' => wpAny_pure ⟨dflt, rfl, h2 hn h' hm' hs'⟩)
  · refine ⟨hD, fun v hv => ?_, fun hnone h' hm hs => ?_⟩
    · refine h s.heap o kvs v ?_ hk (.inl ⟨hv, rfl⟩)
      exact z.mono (fun a oa e => by
        by_cases q : a = d
        · subst q; rw [upd_self] at e; cases e; exact hd
        · rw [upd_ne q] at e; exact e) fun a oa e => by
        by_cases q : a = d
        · subst q; rw [hn.none] at e; cases e
        · rw [upd_ne q]; exact z.base _ _ e
    · obtain ⟨o', ho', hk'⟩ := Heap.dictOf_iff.mp hm
      exact h h' o' _ dflt (z.sameBut hd hn.none hs ho') hk' (.inr ⟨rfl, rfl⟩)
end
end Mine

namespace Mine

abbrev Loc := Str → Option Value
def TurnEnd (b : Heap) (L : Addr) (fp : List Addr) (J : Loc → Ld → Prop) (lq : Ld) (s s' : Shared) : Prop :=
  ∃ h₂ tk₂ m₂ lf, s' = { s with heap := h₂, toks := tk₂ } ∧ Z b L m₂ lf h₂ ∧ J m₂ lf ∧ ∀ a ∈ fp, lf a = lq a
def TurnPost (b : Heap) (L : Addr) (fp : List Addr) (J : Loc → Ld → Prop) (lq : Ld) (s : Shared) (Q : Flow → Shared → Prop) (f : Flow) (s' : Shared) : Prop :=
  match f with
  | .ret v => Q (.ret v) s'
  | .brk => Q .next s'
  | _ => TurnEnd b L fp J lq s s'

/-- what the iterator writes -/
def sees (wr : List Addr) (h : Heap) (ld : Ld) : Ld := fun a => if a ∈ wr then h.get? a else ld a
theorem Z.sees {b : Heap} {L : Addr} {m : Loc} {ld : Ld} {h h₁ : Heap} {wr : List Addr} (z : Z b L m ld h) (hL : L ∉ wr) (hwb : ∀ a ∈ wr, b.get? a = none)
    (hk : ∀ a o, a ∉ wr → h.get? a = some o → h₁.get? a = some o) : Z b L m (sees wr h₁ ld) h₁ where
  ns := z.ns.at' fun o e => hk _ o hL e
  led := fun a o e => by
    unfold Mine.sees at e
    split at e
    · exact e
    · exact hk _ _ (by assumption) (z.led _ _ e)
  fr := by unfold Mine.sees; rw [if_neg hL]; exact z.fr
  base := fun a o e => by
    unfold Mine.sees
    split
    · rename_i q; rw [hwb a q] at e; cases e
    · exact z.base _ _ e
  above := z.above

section
variable {prog : Program} {w : World} {A : Around} {s : Shared} {K : Frag} {mg mb : Str → Option Value} {b : Heap} {L : Addr} {m : Str → Option Value} {ld : Ld} {env : Env} {sc : Scope}

theorem never_passes {M : Model} : PassesOwn M A env (fun _ _ => False) := fun _ _ x => x.elim

theorem loop1 {Q : Flow → Shared → Prop} {R : Result → Shared → Prop} {x : Str} {px : Pos} {body : List Stmt} {I : Addr} {fp wr : List Addr} {n : Nat} {P : Nat → Value → Prop} {St : Nat → Heap → Prop}
    (hQ : ∀ f s', Q f s' → R (.ok f) s')
    (W : Walks prog w A I fp wr n P St) (e : EnvIs env sc L) (hx : sc.names.lookup x = some .local)
    (hwb : ∀ a ∈ wr, b.get? a = none) (hL : L ∉ fp) (z : Z b L m ld s.heap) (hin : ∀ a ∈ fp, (ld a).isSome = true) (hall : ∀ i h, St i h → ∀ a ∈ wr, (h.get? a).isSome = true) (hst : St 0 s.heap)
    (J : Nat → Loc → Ld → Prop) (hJ : ∀ i m ld ld', J i m ld → (∀ a, a ∉ wr → ld' a = ld a) → J i m ld') (h0 : J 0 m ld)
    (turn : ∀ i v m₁ lq h₁ tk₁, i < n → P i v → J i m₁ lq → (∀ a ∈ fp, (lq a).isSome = true) → Z b L (fun y => if y = x then some v else m₁ y) lq h₁ →
      wpAny (model prog w) A (execs body env) (TurnPost b L fp (J (i + 1)) lq s Q) (fun _ _ => False) { s with heap := h₁, toks := tk₁ })
    (done : ∀ m₁ lq h₁ tk₁, J n m₁ lq → Z b L m₁ lq h₁ → Q .next { s with heap := h₁, toks := tk₁ }) :
    codeAny (model prog w) A (.forLoop (.Name x px) (.ref I) body [] env) R s := by
  have hLw : L ∉ wr := fun h => hL (W.sub _ h)
  refine codeAny_forLoop
    (fun k s' => ∃ h' tk m' ld' i, s' = { s with heap := h', toks := tk } ∧ St i h' ∧ Z b L m' ld' h' ∧ (∀ a ∈ fp, (ld' a).isSome = true) ∧ J i m' ld' ∧ i ≤ n ∧ k = n + 1 - i) ?_ (n + 1)
    ⟨s.heap, s.toks, m, ld, 0, rfl, hst, z, hin, h0, Nat.zero_le _, rfl⟩
  rintro k s' ⟨h', tk, m', ld', i, rfl, hst', z', hin', hJ', hi, rfl⟩
  by_cases hlt : i < n
  · refine W.item i _ _ _ hlt hst' fun v h₁ tk₁ hP hst₁ hk₁ => ?_
    have z₁ := z'.sees hLw hwb (fun a o q => hk₁ a o q)
    refine wpAny_assign_Name (st_loc e z₁ (fun h₂ z₂ => ?_) hx)
    have hs₂ : ∀ a ∈ fp, ∀ o, h₁.get? a = some o → h₂.get? a = some o := fun a ha o q => by
      have : sees wr h₁ ld' a = some o := by
        unfold sees
        split
        · exact q
        · rename_i hw
          obtain ⟨o', ho'⟩ := Option.isSome_iff_exists.mp (hin' a ha)
          have := hk₁ a o' hw (z'.led _ _ ho')
          rw [q] at this; cases this; exact ho'
      exact z₂.led _ _ this
    have hin₁ : ∀ a ∈ fp, (sees wr h₁ ld' a).isSome = true := fun a ha => by
      unfold sees
      split
      · exact hall _ _ hst₁ a (by assumption)
      · exact hin' a ha
    refine wpAny_mono (turn i v m' _ h₂ _ hlt hP (hJ _ _ _ _ hJ' fun a ha => by unfold sees; rw [if_neg ha]) hin₁ z₂) (fun f s₃ h₃ => ?_) fun _ _ x => x.elim
    have fin : TurnEnd b L fp (J (i + 1)) (sees wr h₁ ld') s s₃ → ∃ m, m < n + 1 - i ∧ ∃ h' tk m' ld' i, s₃ = { s with heap := h', toks := tk } ∧ St i h' ∧ Z b L m' ld' h' ∧ (∀ a ∈ fp, (ld' a).isSome = true) ∧ J i m' ld' ∧ i ≤ n ∧ m = n + 1 - i := by
      rintro ⟨h₄, tk₃, m₂, lf, rfl, z₃, hJ₃, hfp₃⟩
      refine ⟨n + 1 - (i + 1), by omega, h₄, tk₃, m₂, lf, i + 1, rfl, W.frame _ _ _ hst₁ fun a ha o q => ?_, z₃, fun a ha => by rw [hfp₃ a ha]; exact hin₁ a ha, hJ₃, hlt, rfl⟩
      have : sees wr h₁ ld' a = some o := by
        unfold sees
        split
        · exact q
        · rename_i hw
          obtain ⟨o', ho'⟩ := Option.isSome_iff_exists.mp (hin' a ha)
          have := hk₁ a o' hw (z'.led _ _ ho')
          rw [q] at this; cases this; exact ho'
      exact z₃.led _ _ ((hfp₃ a ha).trans this)
    cases f with
    | ret v => exact hQ _ _ h₃
    | brk => exact hQ _ _ h₃
    | next => exact fin h₃
    | cont => exact fin h₃
  · have hin : i = n := by omega
    subst hin
    refine W.done _ _ _ hst' fun h₁ tk₁ hk₁ => wpAny_execs_nil (hQ _ _ ?_)
    have z₁ := z'.sees hLw hwb (fun a o q => hk₁ a o q)
    exact done m' _ h₁ tk₁ (hJ _ _ _ _ hJ' fun a ha => by unfold sees; rw [if_neg ha]) z₁
end
end Mine

namespace Mine

section
variable {prog : Program} {w : World} {A : Around} {s : Shared} {K : Frag} {mg mb : Str → Option Value} {b : Heap} {L : Addr} {m : Str → Option Value} {ld : Ld} {env : Env} {sc : Scope}

theorem Z.newSize (z : Z b L m ld s.heap) : New b s.heap.objs.size := z.bs.size

/-- for x in a list, from its iterator on -/
theorem iter_listI {Q : Flow → Shared → Prop} {x : Str} {px : Pos} {body : List Stmt} {ax : Addr} {items : Array Value} {ep : Nat} {mm : Nat} (r : Room A mm) (e : EnvIs env sc L)
    (z : Z b L m ld s.heap) (hax : ld ax = some (listOf items ep))
    (J : Addr → Nat → Loc → Ld → Prop)
    (h0 : ∀ I ld₁, ld I = none → (∀ a o, ld a = some o → ld₁ a = some o) → J I 0 m ld₁)
    (hJ : ∀ I, ld I = none → ∀ i m ld ld', J I i m ld → (∀ a, a ≠ I → ld' a = ld a) → J I i m ld')
    (turn : ∀ I oI i v m₁ lq h₁ tk₁, ld I = none → lq I = some oI → items[i]? = some v → J I i m₁ lq → lq ax = some (listOf items ep) → Z b L (fun y => if y = x then some v else m₁ y) lq h₁ →
      wpAny (model prog w) A (execs body env) (TurnPost b L [I, ax] (J I (i + 1)) lq s Q) (fun _ _ => False) { s with heap := h₁, toks := tk₁ })
    (done : ∀ m₁ lq h₁ tk₁ I, J I items.size m₁ lq → Z b L m₁ lq h₁ → Q .next { s with heap := h₁, toks := tk₁ })
    (hx : sc.names.lookup x = some .local := by rfl) :
    wpAny (model prog w) A (pyIter (.ref ax)) (fun it s₂ => codeAny (model prog w) A (.forLoop (.Name x px) it body [] env) (fun r s' => match r with | .ok f => Q f s' | .error e => cameBackBy (model prog w) A env (fun _ _ => False) e s') s₂) (fun _ _ => False) s := by
  have hl : Heap.IsList s.heap ax items := z.isList hax
  refine wpAny_pyIter_list hl ?_
  have hne : ax ≠ s.heap.objs.size := ne_of_lt1 (Heap.lt_size (z.led _ _ hax))
  have z₂ := z.push { cls := .type "list_iterator", data := .fields #[.ref ax, .int 0 0] }
  have hI0 : ld s.heap.objs.size = none := z.size_none
  have hIb : b.get? s.heap.objs.size = none := New.none (b := b) (z.bs.size)
  refine loop1 (s := { s with heap := s.heap.push _ }) (fp := [s.heap.objs.size, ax]) (wr := [s.heap.objs.size]) (Q := Q) (fun f s' q => q) (Walks.list (prog := prog) (w := w) r.handled s.heap.objs.size ax hne items) e hx ?_ ?_ z₂ ?_ ?_ ?_
    (fun i m ld => J s.heap.objs.size i m ld ∧ ld ax = some (listOf items ep)) ?_ ?_ ?_ ?_
  · intro a ha; rw [List.mem_singleton.mp ha]; exact hIb
  · intro hm
    rcases List.mem_cons.mp hm with q | q
    · exact absurd z.ns.lt (by rw [q]; exact Nat.lt_irrefl _)
    · exact z.neL hax (List.mem_singleton.mp q).symm
  · intro a ha
    rcases List.mem_cons.mp ha with q | q
    · rw [q, upd_self]; rfl
    · rw [List.mem_singleton.mp q, upd_ne hne, hax]; rfl
  · rintro i h' ⟨⟨o, ho, _⟩, _⟩ a ha
    rw [List.mem_singleton.mp ha, ho]; rfl
  · exact ⟨⟨_, Heap.get?_push_size _ rfl, rfl, rfl⟩, ⟨_, Heap.get?_push_of_some _ (z.led _ _ hax), rfl, ep, rfl⟩⟩
  · rintro i m₁ l₁ l₂ ⟨j1, j2⟩ hk
    exact ⟨hJ _ hI0 i m₁ l₁ l₂ j1 fun a ha => hk a (fun q => ha (List.mem_singleton.mp q)), (hk ax fun q => hne (List.mem_singleton.mp q)).trans j2⟩
  · refine ⟨h0 _ _ hI0 fun a o q => ?_, (upd_ne hne).trans hax⟩
    rw [upd_ne (ne_of_lt1 (Heap.lt_size (z.led _ _ q)))]; exact q
  · rintro i v m₁ lq h₂ tk₂ hi hv ⟨j1, j2⟩ hin z₃
    obtain ⟨oI, hoI⟩ := Option.isSome_iff_exists.mp (hin s.heap.objs.size (by simp))
    refine wpAny_mono (turn s.heap.objs.size oI i v m₁ lq h₂ tk₂ hI0 hoI hv j1 j2 z₃) (fun f s' q => ?_) fun _ _ x => x
    have fin : TurnEnd b L [s.heap.objs.size, ax] (J s.heap.objs.size (i + 1)) lq s s' → TurnEnd b L [s.heap.objs.size, ax] (fun m ld => J s.heap.objs.size (i + 1) m ld ∧ ld ax = some (listOf items ep)) lq s s' := by
      rintro ⟨h₃, tk₃, m₃, lf, rfl, z₄, hj, hf⟩
      exact ⟨h₃, tk₃, m₃, lf, rfl, z₄, ⟨hj, (hf ax (by simp)).trans j2⟩, hf⟩
    cases f with
    | ret v => exact q
    | brk => exact q
    | next => exact fin q
    | cont => exact fin q
  · rintro m₁ lq h₂ tk₂ ⟨j1, _⟩ z₃
    exact done m₁ lq h₂ tk₂ _ j1 z₃

/-- for x in a list, from its iterator on -/
theorem iter_list {Q : Flow → Shared → Prop} {x : Str} {px : Pos} {body : List Stmt} {ax : Addr} {items : Array Value} {ep : Nat} {mm : Nat} (r : Room A mm) (e : EnvIs env sc L)
    (z : Z b L m ld s.heap) (hax : ld ax = some (listOf items ep))
    (J : Nat → Loc → Ld → Prop)
    (h0 : ∀ ld₁, (∀ a o, ld a = some o → ld₁ a = some o) → J 0 m ld₁)
    (hJ : ∀ I, ld I = none → ∀ i m ld ld', J i m ld → (∀ a, a ≠ I → ld' a = ld a) → J i m ld')
    (turn : ∀ I oI i v m₁ lq h₁ tk₁, ld I = none → lq I = some oI → items[i]? = some v → J i m₁ lq → lq ax = some (listOf items ep) → Z b L (fun y => if y = x then some v else m₁ y) lq h₁ →
      wpAny (model prog w) A (execs body env) (TurnPost b L [I, ax] (J (i + 1)) lq s Q) (fun _ _ => False) { s with heap := h₁, toks := tk₁ })
    (done : ∀ m₁ lq h₁ tk₁, J items.size m₁ lq → Z b L m₁ lq h₁ → Q .next { s with heap := h₁, toks := tk₁ })
    (hx : sc.names.lookup x = some .local := by rfl) :
    wpAny (model prog w) A (pyIter (.ref ax)) (fun it s₂ => codeAny (model prog w) A (.forLoop (.Name x px) it body [] env) (fun r s' => match r with | .ok f => Q f s' | .error e => cameBackBy (model prog w) A env (fun _ _ => False) e s') s₂) (fun _ _ => False) s :=
  iter_listI r e z hax (fun _ => J) (fun _ ld₁ _ q => h0 ld₁ q) hJ turn (fun m₁ lq h₁ tk₁ _ => done m₁ lq h₁ tk₁) hx

/-- for x in range(n), from the call on -/
theorem iter_rangeI {Q : Flow → Shared → Prop} {x : Str} {px : Pos} {body : List Stmt} {n : Nat} {ni : Int} {t : Tok} {mm : Nat} (r : Room A mm) (e : EnvIs env sc L) (z : Z b L m ld s.heap) (hni : ni = n) (hnm : n ≤ 1000)
    (J : Addr → Nat → Loc → Ld → Prop)
    (h0 : ∀ I ld₁, ld I = none → (∀ a o, ld a = some o → ld₁ a = some o) → J I 0 m ld₁)
    (hJ : ∀ I, ld I = none → ∀ i m ld ld', J I i m ld → (∀ a, a ≠ I → ld' a = ld a) → J I i m ld')
    (turn : ∀ I oI i t m₁ lq h₁ tk₁, ld I = none → lq I = some oI → i < n → J I i m₁ lq → Z b L (fun y => if y = x then some (.int i t) else m₁ y) lq h₁ →
      wpAny (model prog w) A (execs body env) (TurnPost b L [I] (J I (i + 1)) lq s Q) (fun _ _ => False) { s with heap := h₁, toks := tk₁ })
    (done : ∀ m₁ lq h₁ tk₁ I, J I n m₁ lq → Z b L m₁ lq h₁ → Q .next { s with heap := h₁, toks := tk₁ })
    (hx : sc.names.lookup x = some .local := by rfl) :
    wpAny (model prog w) A (call (.type "range") [.int ni t]) (fun v s₁ => wpAny (model prog w) A (pyIter v) (fun it s₂ => codeAny (model prog w) A (.forLoop (.Name x px) it body [] env)
      (fun r s' => match r with | .ok f => Q f s' | .error e => cameBackBy (model prog w) A env (fun _ _ => False) e s') s₂) (fun _ _ => False) s₁) (fun _ _ => False) s := by
  subst hni
  refine call_range_1 ?_
  have hz := z.push { cls := .type "range", data := .fields #[.int 0 s.toks, .int n t, .int 1 (s.toks + 1)] }
  have hsm : Builtin.Range.small 0 (n : Int) 1 = true := small_one (by decide) (by decide) (by omega) (by omega)
  refine wpAny_pyIter_range (IsRange.new _ _ _ _ _ _ _) hsm ?_
  dsimp only
  have hsz : Builtin.Range.rangeSize 0 (n : Int) 1 = n := by rw [rangeSize_one]; split <;> omega
  rw [hsz]
  have hzz := hz.push { cls := .type "range_iterator", data := .fields #[rawInt 0, rawInt n, rawInt 1] }
  generalize hHH : (s.heap.push { cls := .type "range", data := .fields #[.int 0 s.toks, .int n t, .int 1 (s.toks + 1)] }) = H at hzz ⊢
  have hHs : H.objs.size = s.heap.objs.size + 1 := by rw [← hHH, Heap.size_push]
  have hI0 : ld H.objs.size = none := by rw [hHs]; exact z.none1
  have hIb : b.get? H.objs.size = none := New.none (b := b) (by unfold New; rw [hHs]; exact Nat.le_succ_of_le z.bs.size)
  have W := Walks.range (prog := prog) (w := w) r.handled H.objs.size 0 1 n
  refine loop1 (s := { s with heap := H.push { cls := .type "range_iterator", data := .fields #[rawInt 0, rawInt n, rawInt 1] }, toks := s.toks + 1 + 1 }) (fp := [H.objs.size]) (wr := [H.objs.size]) (Q := Q) (fun f s' q => q) W e hx ?_ ?_ hzz ?_ ?_ ?_ (J H.objs.size) ?_ ?_ ?_ ?_
  · intro a ha; rw [List.mem_singleton.mp ha]; exact hIb
  · intro hm
    have q := List.mem_singleton.mp hm
    exact absurd z.ns.lt (by rw [q, hHs]; exact Nat.not_lt.mpr (Nat.le_succ _))
  · intro a ha; rw [List.mem_singleton.mp ha, upd_self]; rfl
  · intro i h' hh a ha; rw [List.mem_singleton.mp ha, hh]; rfl
  · show IsRangeIter (H.push _) H.objs.size (0 + ((0 : Nat) : Int) * 1) ((n : Int) - ((0 : Nat) : Int)) 1
    have := Heap.get?_push_size H (o := { cls := .type "range_iterator", data := .fields #[rawInt 0, rawInt n, rawInt 1] }) rfl
    simpa using this
  · intro i m₁ l₁ l₂ j1 hk
    exact hJ _ hI0 i m₁ l₁ l₂ j1 fun a ha => hk a (fun q => ha (List.mem_singleton.mp q))
  · refine h0 _ _ hI0 fun a o q => ?_
    rw [upd_ne (by rw [hHs]; exact ne_of_lt2 (z.lt q)), upd_ne (ne_of_lt1 (z.lt q))]; exact q
  · rintro i v m₁ lq h₂ tk₂ hi ⟨t', rfl⟩ j1 hin z₃
    obtain ⟨oI, hoI⟩ := Option.isSome_iff_exists.mp (hin H.objs.size (by simp))
    have e1 : (0 : Int) + (i : Int) * 1 = i := by omega
    rw [e1] at z₃
    exact turn H.objs.size oI i t' m₁ lq h₂ tk₂ hI0 hoI hi j1 z₃
  · intro m₁ lq h₂ tk₂ j1 z₃
    exact done m₁ lq h₂ tk₂ _ j1 z₃
/-- for x in range(n), from the call on -/
theorem iter_range {Q : Flow → Shared → Prop} {x : Str} {px : Pos} {body : List Stmt} {n : Nat} {ni : Int} {t : Tok} {mm : Nat} (r : Room A mm) (e : EnvIs env sc L) (z : Z b L m ld s.heap) (hni : ni = n) (hnm : n ≤ 1000)
    (J : Nat → Loc → Ld → Prop)
    (h0 : ∀ ld₁, (∀ a o, ld a = some o → ld₁ a = some o) → J 0 m ld₁)
    (hJ : ∀ I, ld I = none → ∀ i m ld ld', J i m ld → (∀ a, a ≠ I → ld' a = ld a) → J i m ld')
    (turn : ∀ I oI i t m₁ lq h₁ tk₁, ld I = none → lq I = some oI → i < n → J i m₁ lq → Z b L (fun y => if y = x then some (.int i t) else m₁ y) lq h₁ →
      wpAny (model prog w) A (execs body env) (TurnPost b L [I] (J (i + 1)) lq s Q) (fun _ _ => False) { s with heap := h₁, toks := tk₁ })
    (done : ∀ m₁ lq h₁ tk₁, J n m₁ lq → Z b L m₁ lq h₁ → Q .next { s with heap := h₁, toks := tk₁ })
    (hx : sc.names.lookup x = some .local := by rfl) :
    wpAny (model prog w) A (call (.type "range") [.int ni t]) (fun v s₁ => wpAny (model prog w) A (pyIter v) (fun it s₂ => codeAny (model prog w) A (.forLoop (.Name x px) it body [] env)
      (fun r s' => match r with | .ok f => Q f s' | .error e => cameBackBy (model prog w) A env (fun _ _ => False) e s') s₂) (fun _ _ => False) s₁) (fun _ _ => False) s :=
  iter_rangeI r e z hni hnm (fun _ => J) (fun _ ld₁ _ q => h0 ld₁ q) hJ turn (fun m₁ lq h₁ tk₁ _ => done m₁ lq h₁ tk₁) hx
end
end Mine

namespace Mine

section
variable {prog : Program} {w : World} {A : Around} {s : Shared} {K : Frag} {mg mb : Str → Option Value} {b : Heap} {L : Addr} {m : Str → Option Value} {ld : Ld} {env : Env} {sc : Scope}

/-- for x0, x1 in an owned pair's iterator -/
theorem loop2 {Q : Flow → Shared → Prop} {R : Result → Shared → Prop} {x0 x1 : Str} {p0 p1 pt : Pos} {kt : Nat} {body : List Stmt} {I : Addr} {fp wr : List Addr} {n : Nat} {Pt : Nat → Array Value → Prop} {P : Nat → Value → Value → Prop} {St : Nat → Heap → Prop} {Mid : Nat → Addr → Heap → Prop}
    (hQ : ∀ f s', Q f s' → R (.ok f) s') (hh : A.handled = none)
    (W : WalksT prog w A I fp wr n Pt St Mid) (hP : ∀ i vals, Pt i vals → ∃ v0 v1, vals = #[v0, v1] ∧ P i v0 v1) (e : EnvIs env sc L) (hx0 : sc.names.lookup x0 = some .local) (hx1 : sc.names.lookup x1 = some .local)
    (hwb : ∀ a ∈ wr, b.get? a = none) (hL : L ∉ fp) (z : Z b L m ld s.heap) (hin : ∀ a ∈ fp, (ld a).isSome = true) (hall : ∀ i h, St i h → ∀ a ∈ wr, (h.get? a).isSome = true) (hst : St 0 s.heap)
    (J : Nat → Loc → Ld → Prop) (hJ : ∀ i m ld ld', J i m ld → (∀ a, a ∉ wr → ld' a = ld a) → J i m ld') (h0 : J 0 m ld)
    (turn : ∀ i v0 v1 m₁ lq h₁ tk₁, i < n → P i v0 v1 → J i m₁ lq → (∀ a ∈ fp, (lq a).isSome = true) → Z b L (fun y => if y = x1 then some v1 else if y = x0 then some v0 else m₁ y) lq h₁ →
      wpAny (model prog w) A (execs body env) (TurnPost b L fp (J (i + 1)) lq s Q) (fun _ _ => False) { s with heap := h₁, toks := tk₁ })
    (done : ∀ m₁ lq h₁ tk₁, J n m₁ lq → Z b L m₁ lq h₁ → Q .next { s with heap := h₁, toks := tk₁ }) :
    codeAny (model prog w) A (.forLoop (.Tuple [.Name x0 p0, .Name x1 p1] kt pt) (.ref I) body [] env) R s := by
  have hLw : L ∉ wr := fun h => hL (W.sub _ h)
  refine codeAny_forLoop_any
    (fun k s' => ∃ h' tk m' ld' i, s' = { s with heap := h', toks := tk } ∧ St i h' ∧ Z b L m' ld' h' ∧ (∀ a ∈ fp, (ld' a).isSome = true) ∧ J i m' ld' ∧ i ≤ n ∧ k = n + 1 - i) ?_ (n + 1)
    ⟨s.heap, s.toks, m, ld, 0, rfl, hst, z, hin, h0, Nat.zero_le _, rfl⟩
  rintro k s' ⟨h', tk, m', ld', i, rfl, hst', z', hin', hJ', hi, rfl⟩
  by_cases hlt : i < n
  · refine W.item i _ _ _ hlt hst' fun T vals h₁ tk₁ hPt hTn hTt hMid hk₁ => ?_
    obtain ⟨v0, v1, rfl, hPv⟩ := hP i vals hPt
    refine W.go _ _ _ i T _ _ _ hMid fun h₂ hst₂ hk₂ => ?_
    dsimp only at hk₁ hk₂ hTn ⊢
    have z₂ := z'.sees (h₁ := h₂) hLw hwb (fun a o q e => hk₂ a o q (hk₁ a o q e))
    have hT₂ : h₂.IsTuple T #[v0, v1] := by
      obtain ⟨o, ho, r⟩ := hTt
      exact ⟨o, hk₂ _ _ (W.apart _ _ _ hMid) ho, r⟩
    refine wpAny_assign_Tuple (s := { s with heap := h₂, toks := tk₁ }) hh hT₂ rfl rfl fun h₃ hx₃ => ?_
    have z₃ : Z b L m' (sees wr h₂ ld') h₃ := z₂.ext fun a o q => hx₃ a o (ne_of_lt1 (Heap.lt_size q)) q
    show wpAny _ A (assignInOrder [assign (.Name x0 p0) env, assign (.Name x1 p1) env] [v0, v1]) _ _ _
    refine assignInOrder_cons (wpAny_assign_Name (st_loc e z₃ (fun h₄ z₄ => ?_) hx0))
    refine assignInOrder_cons (wpAny_assign_Name (st_loc e z₄ (fun h₅ z₅ => ?_) hx1))
    refine assignInOrder_nil ?_
    have hseen : ∀ a ∈ fp, ∀ o, h₂.get? a = some o → sees wr h₂ ld' a = some o := fun a ha o q => by
      unfold sees
      split
      · exact q
      · rename_i hw
        obtain ⟨o', ho'⟩ := Option.isSome_iff_exists.mp (hin' a ha)
        have := hk₂ a o' hw (hk₁ a o' hw (z'.led _ _ ho'))
        rw [q] at this; cases this; exact ho'
    have hin₁ : ∀ a ∈ fp, (sees wr h₂ ld' a).isSome = true := fun a ha => by
      unfold sees
      split
      · exact hall _ _ hst₂ a (by assumption)
      · exact hin' a ha
    refine wpAny_mono (turn i v0 v1 m' _ h₅ _ hlt hPv (hJ _ _ _ _ hJ' fun a ha => by unfold sees; rw [if_neg ha]) hin₁ z₅) (fun f s₃ h₃ => ?_) fun _ _ x => x.elim
    have fin : TurnEnd b L fp (J (i + 1)) (sees wr h₂ ld') s s₃ → ∃ m, m < n + 1 - i ∧ ∃ h' tk m' ld' i, s₃ = { s with heap := h', toks := tk } ∧ St i h' ∧ Z b L m' ld' h' ∧ (∀ a ∈ fp, (ld' a).isSome = true) ∧ J i m' ld' ∧ i ≤ n ∧ m = n + 1 - i := by
      rintro ⟨h₄, tk₃, m₂, lf, rfl, z₃, hJ₃, hfp₃⟩
      refine ⟨n + 1 - (i + 1), by omega, h₄, tk₃, m₂, lf, i + 1, rfl, W.frame _ _ _ hst₂ fun a ha o q => ?_, z₃, fun a ha => by rw [hfp₃ a ha]; exact hin₁ a ha, hJ₃, hlt, rfl⟩
      exact z₃.led _ _ ((hfp₃ a ha).trans (hseen a ha o q))
    cases f with
    | ret v => exact hQ _ _ h₃
    | brk => exact hQ _ _ h₃
    | next => exact fin h₃
    | cont => exact fin h₃
  · have hin : i = n := by omega
    subst hin
    refine W.done _ _ _ hst' fun h₁ tk₁ hk₁ => wpAny_execs_nil (hQ _ _ ?_)
    have z₁ := z'.sees hLw hwb (fun a o q => hk₁ a o q)
    exact done m' _ h₁ tk₁ (hJ _ _ _ _ hJ' fun a ha => by unfold sees; rw [if_neg ha]) z₁

/-- for i, x in enumerate(a list), from the call on -/
theorem iter_enum {Q : Flow → Shared → Prop} {x0 x1 : Str} {p0 p1 pt : Pos} {kt : Nat} {body : List Stmt} {ax : Addr} {items : Array Value} {ep : Nat} {mm : Nat} (r : Room A mm) (e : EnvIs env sc L)
    (z : Z b L m ld s.heap) (hax : ld ax = some (listOf items ep))
    (J : Nat → Loc → Ld → Prop)
    (h0 : ∀ ld₁, (∀ a o, ld a = some o → ld₁ a = some o) → J 0 m ld₁)
    (hJ : ∀ I I', ld I = none → ld I' = none → ∀ i m ld ld', J i m ld → (∀ a, a ≠ I → a ≠ I' → ld' a = ld a) → J i m ld')
    (turn : ∀ I I' oI oI' i t v m₁ lq h₁ tk₁, ld I = none → ld I' = none → lq I = some oI → lq I' = some oI' → items[i]? = some v → J i m₁ lq → lq ax = some (listOf items ep) →
      Z b L (fun y => if y = x1 then some v else if y = x0 then some (.int i t) else m₁ y) lq h₁ →
      wpAny (model prog w) A (execs body env) (TurnPost b L [I, I', ax] (J (i + 1)) lq s Q) (fun _ _ => False) { s with heap := h₁, toks := tk₁ })
    (done : ∀ m₁ lq h₁ tk₁, J items.size m₁ lq → Z b L m₁ lq h₁ → Q .next { s with heap := h₁, toks := tk₁ })
    (hx0 : sc.names.lookup x0 = some .local := by rfl) (hx1 : sc.names.lookup x1 = some .local := by rfl) :
    wpAny (model prog w) A (call (.type "enumerate") [.ref ax]) (fun v s₁ => wpAny (model prog w) A (pyIter v) (fun it s₂ => codeAny (model prog w) A (.forLoop (.Tuple [.Name x0 p0, .Name x1 p1] kt pt) it body [] env)
      (fun r s' => match r with | .ok f => Q f s' | .error e => cameBackBy (model prog w) A env (fun _ _ => False) e s') s₂) (fun _ _ => False) s₁) (fun _ _ => False) s := by
  have hl : Heap.IsList s.heap ax items := z.isList hax
  refine call_enumerate_list hl fun h₂ hen hit hsz hk => ?_
  refine wpAny_pyIter_enum hen ?_
  obtain ⟨oit, hoit, hoc, hod⟩ := id hit
  generalize hh₁ : s.heap = h₁ at *
  have hax1 : @LT.lt Nat _ ax h₁.objs.size := Heap.lt_size (z.led _ _ hax)
  have hle : ax ≠ h₁.objs.size + 1 := ne_of_lt2 hax1
  have hli : ax ≠ h₁.objs.size := ne_of_lt1 hax1
  have hei : h₁.objs.size + 1 ≠ h₁.objs.size := Nat.succ_ne_self _
  have hold : ∀ a o, ld a = some o → a ≠ h₁.objs.size + 1 ∧ a ≠ h₁.objs.size := fun a o q => ⟨ne_of_lt2 (Heap.lt_size (z.led _ _ q)), ne_of_lt1 (Heap.lt_size (z.led _ _ q))⟩
  have nn : ∀ I, (∀ a o, ld a = some o → a ≠ I) → ld I = none := fun I hI => by
    cases q : ld I with
    | none => rfl
    | some o => exact absurd rfl (hI _ _ q)
  have hIb : b.get? (h₁.objs.size + 1) = none := New.none (b := b) (Nat.le_succ_of_le z.bs.size)
  have hIb' : b.get? h₁.objs.size = none := New.none (b := b) z.bs.size
  have hLlt : @LT.lt Nat _ L h₁.objs.size := z.ns.lt
  have z₂ : Z b L m (upd (upd ld h₁.objs.size oit) (h₁.objs.size + 1) { cls := .type "enumerate", dict := none, data := .fields #[.none, .bool false, .ref h₁.objs.size, rawInt 0, .none, .none], slots := #[] }) h₂ :=
    { ns := z.ns.keeps hk
      led := fun a o q => by
        by_cases q1 : a = h₁.objs.size + 1
        · subst q1; rw [upd_self] at q; cases q; exact hen
        · rw [upd_ne q1] at q
          by_cases q2 : a = h₁.objs.size
          · subst q2; rw [upd_self] at q; cases q; exact hoit
          · rw [upd_ne q2] at q; exact hk _ _ (z.led _ _ q)
      fr := by rw [upd_ne (ne_of_lt2 hLlt), upd_ne (ne_of_lt1 hLlt)]; exact z.fr
      base := fun a o q => by
        have := z.base _ _ q
        rw [upd_ne (hold _ _ this).1, upd_ne (hold _ _ this).2]; exact this
      above := z.above }
  have W := WalksT.enumerate (prog := prog) (w := w) r.handled (h₁.objs.size + 1) h₁.objs.size ax hei hle hli items
  refine loop2 (s := { s with heap := h₂ }) (fp := [h₁.objs.size + 1, h₁.objs.size, ax]) (wr := [h₁.objs.size + 1, h₁.objs.size]) (P := fun i v0 v1 => ∃ t, v0 = .int i t ∧ items[i]? = some v1) (Q := Q) (fun f s' q => q) r.handled W ?_ e hx0 hx1 ?_ ?_ z₂ ?_ ?_ ?_
    (fun i m ld => J i m ld ∧ ld ax = some (listOf items ep)) ?_ ?_ ?_ ?_
  · rintro i vals ⟨t, x, hx, rfl⟩; exact ⟨_, _, rfl, t, rfl, hx⟩
  · intro a ha
    rcases List.mem_cons.mp ha with q | q
    · rw [q]; exact hIb
    · rw [List.mem_singleton.mp q]; exact hIb'
  · intro hm
    rcases List.mem_cons.mp hm with q | q
    · exact ne_of_lt2 hLlt q
    · rcases List.mem_cons.mp q with q | q
      · exact ne_of_lt1 hLlt q
      · exact z.neL hax (List.mem_singleton.mp q).symm
  · intro a ha
    rcases List.mem_cons.mp ha with q | q
    · rw [q, upd_self]; rfl
    · rcases List.mem_cons.mp q with q | q
      · rw [q, upd_ne hei.symm, upd_self]; rfl
      · rw [List.mem_singleton.mp q, upd_ne hle, upd_ne hli, hax]; rfl
  · rintro i h' ⟨⟨old, h1⟩, ⟨o, h2, _⟩, _⟩ a ha
    rcases List.mem_cons.mp ha with q | q
    · rw [q, h1]; rfl
    · rw [List.mem_singleton.mp q, h2]; rfl
  · exact ⟨⟨_, by simpa using hen⟩, hit, ⟨_, hk _ _ (z.led _ _ hax), rfl, ep, rfl⟩⟩
  · rintro i m₁ l₁ l₂ ⟨j1, j2⟩ hkk
    exact ⟨hJ _ _ (nn _ fun a o q => (hold a o q).1) (nn _ fun a o q => (hold a o q).2) i m₁ l₁ l₂ j1 fun a h1 h2 => hkk a (fun q => by rcases List.mem_cons.mp q with q | q; exact h1 q; exact h2 (List.mem_singleton.mp q)),
      (hkk ax fun q => by rcases List.mem_cons.mp q with q | q; exact hle q; exact hli (List.mem_singleton.mp q)).trans j2⟩
  · refine ⟨h0 _ fun a o q => ?_, by rw [upd_ne hle, upd_ne hli]; exact hax⟩
    rw [upd_ne (hold _ _ q).1, upd_ne (hold _ _ q).2]; exact q
  · rintro i v0 v1 m₁ lq h₃ tk₃ hi ⟨t, rfl, hv⟩ ⟨j1, j2⟩ hin z₃
    obtain ⟨oI, hoI⟩ := Option.isSome_iff_exists.mp (hin (h₁.objs.size + 1) (by simp))
    obtain ⟨oI', hoI'⟩ := Option.isSome_iff_exists.mp (hin h₁.objs.size (by simp))
    refine wpAny_mono (turn _ _ oI oI' i t v1 m₁ lq h₃ tk₃ (nn _ fun a o q => (hold a o q).1) (nn _ fun a o q => (hold a o q).2) hoI hoI' hv j1 j2 z₃) (fun f s' q => ?_) fun _ _ x => x
    have fin : TurnEnd b L [h₁.objs.size + 1, h₁.objs.size, ax] (J (i + 1)) lq s s' → TurnEnd b L [h₁.objs.size + 1, h₁.objs.size, ax] (fun m ld => J (i + 1) m ld ∧ ld ax = some (listOf items ep)) lq { s with heap := h₂ } s' := by
      rintro ⟨h₃, tk₃, m₃, lf, rfl, z₄, hj, hf⟩
      exact ⟨h₃, tk₃, m₃, lf, rfl, z₄, ⟨hj, (hf ax (by simp)).trans j2⟩, hf⟩
    cases f with
    | ret v => exact q
    | brk => exact q
    | next => exact fin q
    | cont => exact fin q
  · rintro m₁ lq h₃ tk₃ ⟨j1, _⟩ z₃
    exact done m₁ lq h₃ tk₃ j1 z₃
end
end Mine

namespace Mine

section
variable {prog : Program} {w : World} {A : Around} {E : Value → Shared → Prop} {s : Shared} {K : Frag} {mg mb : Str → Option Value} {b : Heap} {L : Addr} {m : Str → Option Value} {ld : Ld} {env : Env} {sc : Scope}

theorem l_set {l : Addr} {vs : List Value} {n : Nat} {k : Int} {t : Tok} {v : Value} {Q : Unit → Shared → Prop} (z : Z b L m ld s.heap) (hl : ld l = some (listOf vs.toArray n)) (hn : New b l)
    (h0 : 0 ≤ k) (hk : k < vs.length) (hsz : vs.length ≤ 1000)
    (h : ∀ h', Z b L m (upd ld l (listOf (vs.set k.toNat v).toArray n)) h' → Q () { s with heap := h' }) :
    wpAny (model prog w) A (setItem (.ref l) (.int k t) v) Q E s := by
  have hL := z.isList hl
  have ho := z.led _ _ hl
  unfold setItem
  try with_reducible refine wpAny_holding ?_
  first | refine wpAny_bind (wpAny_pure ?_) | skip
  refine wpAny_bind (wpAny_sequenceKey hL.typeIs (by decide) ?_)
  refine wpAny_bind (wpAny_callSpecial?_slot (name := Str.ofString "__setitem__") hL.typeIs slot_list_setitem
    (wpAny_call_entry slot_list_setitem hL.typeIs entry_list_setitem ?_ (args_list_setitem _ _ _)))
  show wpAny _ _ (Builtin.List.listSubscript? (.int k t) >>= _) _ _ s
  refine wpAny_bind (wpAny_listSubscript_int (fitsIndex_of h0 (by omega)) ?_)
  obtain ⟨j, rfl⟩ := Int.eq_ofNat_of_zero_le h0
  have hj : j < vs.toArray.size := by rw [List.size_toArray]; omega
  have hx' : vs.toArray[j]? = some vs.toArray[j] := Array.getElem?_eq_getElem hj
  show wpAny _ _ ((seqItemAt l j >>= fun r => pure (r.map (j, ·))) >>= _) _ _ s
  refine wpAny_bind (wpAny_bind (wpAny_seqItemAt ho rfl (wpAny_pure ?_)))
  rw [hx']
  show wpAny _ _ (setSeqItemAt l j v >>= _) _ _ s
  have hobj : Obj.mapSeq (·.setIfInBounds j v) (listOf vs.toArray n) = listOf (vs.set j v).toArray n := by
    simp [Obj.mapSeq]
  have hfin : (s.heap.update l (Obj.mapSeq (·.setIfInBounds j v))).get? l = some (listOf (vs.set j v).toArray n) := by
    rw [← hobj]; exact Heap.get?_update_self _ ho (by rw [hobj]; rfl)
  refine wpAny_bind (wpAny_setSeqItemAt ho rfl ?_)
  have hz := z.sameBut hl hn.none (Heap.SameBut.update ..) hfin
  first
    | exact wpAny_bind (wpAny_pure (wpAny_pure ⟨.none, rfl, wpAny_pure (h _ hz)⟩))
    | exact wpAny_pure ⟨.none, rfl, wpAny_pure (h _ hz)⟩

theorem as_sub {o i : Expr} {pos : Pos} {v : Value} {Q : Unit → Shared → Prop}
    (h : wpAny (model prog w) A (eval o env) (fun ov s₁ => wpAny (model prog w) A (eval i env) (fun iv s₂ => wpAny (model prog w) A (setItem ov iv v) Q E s₂) E s₁) E s) :
    wpAny (model prog w) A (assign (.Subscript o i pos) env v) Q E s := by
  rw [arm_assign_Subscript]
  exact wpAny_bind (wpAny_holding (wpAny_mono h (fun ov s₁ h₁ => wpAny_bind (wpAny_holding (wpAny_mono h₁ (fun iv s₂ h₂ => wpAny_bind (wpAny_standAt (wpAny_bind (wpAny_holding (wpAny_mono h₂ (fun _ s₃ h₃ => wpAny_releaseD h₃) fun _ _ x => x))))) fun _ _ x => x))) fun _ _ x => x))

theorem EnvIs.block (e : EnvIs env sc L) : env.blockKind = .function := by unfold Env.blockKind; rw [e.fn]; rfl

theorem swapped_sub {a i a' i' u v : Expr} {p p' tp vp : Pos} {k kv : Nat} (e : EnvIs env sc L) :
    swappedStores [.Tuple [.Subscript a i p, .Subscript a' i' p'] k tp] (.Tuple [u, v] kv vp) env = pure none := by
  unfold swappedStores
  simp [e.block]

theorem Z.isTup (z : Z b L m ld s.heap) {l : Addr} {its : Array Value} {n : Nat} (hl : ld l = some { cls := .type "tuple", data := .seq its n }) : s.heap.IsTuple l its := ⟨_, z.led _ _ hl, rfl, n, rfl⟩

/-- x[..], y[..] = (u, v) -/
theorem as_two {a i a' i' u v : Expr} {p p' tp vp pos : Pos} {k kv : Nat} {Q : Flow → Shared → Prop} {mm : Nat} (r : Room A mm) (e : EnvIs env sc L)
    (h : wpAny (model prog w) A (spliced (backTo vp (starEach [u, v] env))) (fun vs s₁ => ∃ v1 v2 m ld, vs = [v1, v2] ∧ Z b L m ld s₁.heap ∧ ∀ h₁, Z b L m ld h₁ →
      wpAny (model prog w) A (assign (.Subscript a i p) env v1) (fun _ s₂ => wpAny (model prog w) A (assign (.Subscript a' i' p') env v2) (fun _ s₃ => Q .next s₃) E s₂) E { s₁ with heap := h₁ }) E s)
    (hsw : swapsWithSole [.Tuple [.Subscript a i p, .Subscript a' i' p'] k tp] (.Tuple [u, v] kv vp) pos.line env = pure false := by rfl) :
    wpAny (model prog w) A (exec (.Assign [.Tuple [.Subscript a i p, .Subscript a' i' p'] k tp] (.Tuple [u, v] kv vp) pos) env) Q E s := by
  refine Assign_Tuple (wpAny_Tuple (wpAny_mono h (fun vs s₁ q => ?_) fun _ _ x => x)) hsw (swapped_sub e)
  obtain ⟨v1, v2, m, ld, rfl, z₁, h⟩ := q
  refine ⟨(by show 2 ≤ sizeLine; decide), ?_⟩
  have z₂ := z₁.push { cls := .type "tuple", data := .seq [v1, v2].toArray }
  refine wpAny_assign_Tuple (s := { s₁ with heap := s₁.heap.push { cls := .type "tuple", data := .seq [v1, v2].toArray } }) r.handled (items := #[v1, v2]) ⟨_, z₂.led _ _ upd_self, rfl, _, rfl⟩ rfl rfl fun h₃ hx₃ => ?_
  have z₃ : Z b L m ld h₃ := (z₁.ext fun _ _ q => Heap.get?_push_of_some _ q).ext fun a o q => hx₃ a o (ne_of_lt1 (Heap.lt_size q)) q
  show wpAny _ A (assignInOrder [assign (.Subscript a i p) env, assign (.Subscript a' i' p') env] [v1, v2]) _ _ _
  exact assignInOrder_cons (wpAny_mono (h h₃ z₃) (fun _ s₁ h₁ => assignInOrder_cons (wpAny_mono h₁ (fun _ s₂ h₂ => assignInOrder_nil h₂) fun _ _ x => x)) fun _ _ x => x)
end
end Mine

namespace Mine

def keyOf (e : Int × Value) : Int := match e.2 with | .int k _ => k | _ => 0
/-- the elements of a set of ints, in the table's order -/
def Els (l : List (Int × Value)) : Prop := ∀ e ∈ l, ∃ k t, e = (hashInt k, .int k t)
theorem Els.perm {l l' : List (Int × Value)} (h : Els l) (p : l'.Perm l) : Els l' := fun e he => h e (p.mem_iff.mp he)
theorem Els.elems {prog : Program} {w : World} {l : List (Int × Value)} (h : Els l) : ElemsOf (intKind prog w) l := fun e he => by
  obtain ⟨k, t, rfl⟩ := h e he
  exact ⟨⟨k, intKind_is prog w k t, rfl⟩, rfl⟩
theorem Els.is {prog : Program} {w : World} {l : List (Int × Value)} (h : Els l) {e : Int × Value} (he : e ∈ l) (k : Int) : (intKind prog w).is k e.2 = decide (keyOf e = k) := by
  obtain ⟨k', t, rfl⟩ := h e he
  rw [KeyKind.is_eq_decide (intKind_is prog w k' t) k]
  show decide (k = k') = decide (k' = k)
  rw [Bool.eq_iff_iff]; simp only [decide_eq_true_eq]; exact eq_comm

abbrev setObj (es : Array (Int × Value)) (ep : Nat) (t : SetTable) : Obj := { cls := .type "set", dict := none, data := .set es ep t }

def addPure (t : SetTable) (es : Array (Int × Value)) (h : Int) (x : Value) : Array (Int × Value) × SetTable × Nat :=
  if (!(layNew t es h x).2.2.1 && (layNew t es h x).2.1.tooFull) = true then
    ((relayAll (layNew t es h x).2.1 (layNew t es h x).1 (SetTable.grown (layNew t es h x).1.size)).1, (relayAll (layNew t es h x).2.1 (layNew t es h x).1 (SetTable.grown (layNew t es h x).1.size)).2.1, 2)
  else ((layNew t es h x).1, (layNew t es h x).2.1, 1)
theorem addPure_perm (t : SetTable) (es : Array (Int × Value)) (h : Int) (x : Value) : (addPure t es h x).1.toList.Perm (es.toList ++ [(h, x)]) := by
  have := layNew_perm t es h x
  rw [Array.toList_push] at this
  unfold addPure
  split
  · exact (relayAll_perm _ _ _).trans this
  · exact this
theorem addPure_fits (t : SetTable) (es : Array (Int × Value)) (h : Int) (x : Value) : (addPure t es h x).2.1.fits (addPure t es h x).1.size = true := by
  unfold addPure
  split
  · exact relayAll_fits _ _ _
  · exact layNew_fits _ _ _ _

theorem findIdx_key {prog : Program} {w : World} {es : Array (Int × Value)} (h : Els es.toList) (k : Int) : es.toList.findIdx? (fun e => (intKind prog w).is k e.2) = (es.toList.map keyOf).findIdx? (fun x => decide (x = k)) := by
  generalize es.toList = l at h
  induction l with
  | nil => rfl
  | cons e l ih =>
    simp only [List.findIdx?_cons, List.map_cons]
    rw [h.is (.head _) k, ih fun e he => h e (.tail _ he)]

section
variable {prog : Program} {w : World} {A : Around} {E : Value → Shared → Prop} {s : Shared} {K : Frag} {mg mb : Str → Option Value} {b : Heap} {L : Addr} {m : Str → Option Value} {ld : Ld} {env : Env} {sc : Scope}
  {a : Addr} {es : Array (Int × Value)} {ep : Nat} {t : SetTable} {k : Int} {tk : Tok}

theorem setOf_of (z : Z b L m ld s.heap) (ha : ld a = some (setObj es ep t)) (hE : Els es.toList) (hf : t.fits es.size = true) (hb : es.size < 1000) :
    s.heap.SetOf (intKind prog w) a (fun k => decide (k ∈ es.toList.map keyOf)) es.size :=
  ⟨_, es, ep, t, z.led _ _ ha, ⟨rfl, rfl, rfl⟩, rfl, hE.elems, fun k => by
    rw [decide_eq_true_eq, List.mem_map]
    constructor
    · rintro ⟨e, he, q⟩; exact ⟨e, he, by rw [hE.is he]; exact decide_eq_true q⟩
    · rintro ⟨e, he, q⟩; exact ⟨e, he, by rw [hE.is he] at q; exact of_decide_eq_true q⟩, Nat.lt_trans hb (by decide), hf, rfl⟩

theorem s_in {Q : Value → Shared → Prop} (z : Z b L m ld s.heap) (ha : ld a = some (setObj es ep t)) (hE : Els es.toList) (hf : t.fits es.size = true) (hb : es.size < 1000)
    (h : Q (.bool (decide (k ∈ es.toList.map keyOf))) { s with toks := s.toks + 1 }) : wpAny (model prog w) A (compareOp .In (.int k tk) (.ref a)) Q E s :=
  wpAny_inSet_of (intKind_is prog w k tk) rfl (setOf_of z ha hE hf hb) h
theorem s_notin {Q : Value → Shared → Prop} (z : Z b L m ld s.heap) (ha : ld a = some (setObj es ep t)) (hE : Els es.toList) (hf : t.fits es.size = true) (hb : es.size < 1000)
    (h : Q (.bool (!decide (k ∈ es.toList.map keyOf))) { s with toks := s.toks + 1 }) : wpAny (model prog w) A (compareOp .NotIn (.int k tk) (.ref a)) Q E s :=
  wpAny_notInSet_of (intKind_is prog w k tk) rfl (setOf_of z ha hE hf hb) h
theorem s_len {Q : Value → Shared → Prop} (z : Z b L m ld s.heap) (ha : ld a = some (setObj es ep t)) (hf : t.fits es.size = true) (hb : es.size < 1000)
    (h : ∀ t' tk', Q (.int es.size t') { s with toks := tk' }) : wpAny (model prog w) A (call (.builtin "len") [.ref a]) Q E s :=
  call_len_set (z.led _ _ ha) ⟨rfl, rfl, rfl⟩ rfl hf (by omega) (h _ _)
theorem sm_add {pl : Sem Bool} {Q : Value × List Value → Shared → Prop} (z : Z b L m ld s.heap) (ha : ld a = some (setObj es ep t)) (h : Q (.builtin "set.add", [.ref a]) s) :
    wpAny (model prog w) A (getMethod (.ref a) "add" pl) Q E s :=
  getMethod_builtin (T := "set") ⟨_, z.led _ _ ha, rfl⟩ F.plainAttrs_set F.slot_set_add F.type_set_add (fun c q => by cases q; exact ⟨_, z.led _ _ ha, rfl⟩) h
theorem sm_discard {pl : Sem Bool} {Q : Value × List Value → Shared → Prop} (z : Z b L m ld s.heap) (ha : ld a = some (setObj es ep t)) (h : Q (.builtin "set.discard", [.ref a]) s) :
    wpAny (model prog w) A (getMethod (.ref a) "discard" pl) Q E s :=
  getMethod_builtin (T := "set") ⟨_, z.led _ _ ha, rfl⟩ F.plainAttrs_set F.slot_set_discard F.type_set_discard (fun c q => by cases q; exact ⟨_, z.led _ _ ha, rfl⟩) h

theorem storeSet_Z {es' : Array (Int × Value)} {t' : SetTable} {Q : Unit → Shared → Prop} (z : Z b L m ld s.heap) (ha : ld a = some (setObj es ep t)) (hn : New b a) (hb : es'.size ≤ 1000)
    (h : ∀ h', Z b L m (upd ld a (setObj es' (ep + 1) t')) h' → Q () { s with heap := h' }) : wpAny (model prog w) A (storeSet a es' t') Q E s := by
  refine wpAny_storeSet_of (z.led _ _ ha) rfl (h _ ?_) (Nat.le_trans hb (by decide))
  refine z.sameBut ha hn.none (Heap.SameBut.update ..) ?_
  have := Heap.get?_update_self (Obj.putSet es' t') (z.led _ _ ha) (by rw [putSet_of es' t' rfl]; rfl)
  rw [putSet_of es' t' rfl] at this; exact this

theorem s_add {Q : Value → Shared → Prop} (z : Z b L m ld s.heap) (ha : ld a = some (setObj es ep t)) (hn : New b a) (hE : Els es.toList) (hf : t.fits es.size = true) (hb : es.size < 900)
    (hold : k ∈ es.toList.map keyOf → ∀ tk', Q .none { s with toks := tk' })
    (hnew : k ∉ es.toList.map keyOf → ∀ h' ep' tk', Z b L m (upd ld a (setObj (addPure t es (hashInt k) (.int k tk)).1 ep' (addPure t es (hashInt k) (.int k tk)).2.1)) h' → Q .none { s with heap := h', toks := tk' }) :
    wpAny (model prog w) A (call (.builtin "set.add") [.ref a, .int k tk]) Q E s := by
  have hkey := intKind_is prog w k tk
  have hT : s.TypeIs (.ref a) "set" := ⟨_, z.led _ _ ha, rfl⟩
  refine wpAny_call_entry F.slot_set_add hT F.entry_set_add ?_ (F.args_set_add_2 _ _)
  unfold Builtin.«set.add» Builtin.Frozenset.oneOther
  simp only [List.isEmpty_nil, bind_assoc]
  unfold Builtin.Frozenset.addrOf setAdd
  refine wpAny_bind (wpAny_pure ?_)
  try dsimp only
  refine wpAny_bind (wpAny_pure ?_)
  try dsimp only
  refine wpAny_bind ?_
  refine wpAny_holding ?_
  refine wpAny_bind ((intKind prog w).pyHash hkey ?_)
  have fin : ∀ s' (Q' : Value → Shared → Prop), Q' .none s' → wpAny (model prog w) A.in1 (ret Value.none) (fun fin s' => ∃ r, fin = .done (.ret r) ∧ Q' r s') E s' := fun s' Q' q => wpAny_pure ⟨_, rfl, q⟩
  unfold setAddHashed setAddHashedIn
  have hb' : es.size < scanBound := Nat.lt_trans hb (by decide)
  refine wpAny_holding (wpAny_bind (wpAny_setState_of (s := { s with toks := s.toks + 1 }) (z.led _ _ ha) rfl hf ?_))
  dsimp only
  rw [byScan_of (prog := prog) (w := w) rfl hb' hE.elems]
  simp only [↓reduceIte]
  unfold setAddByScan
  refine wpAny_bind ?_
  refine wpAny_bind (wpAny_rule ?_)
  refine wpAny_bind (wpAny_setScan_of hkey (z.led _ _ ha) rfl hf hE.elems ?_)
  rw [findIdx_key hE]
  cases hr : List.findIdx? (fun x => decide (x = k)) (es.toList.map keyOf) with
  | some j =>
    dsimp only
    obtain ⟨hj, hpj, _⟩ := List.findIdx?_eq_some_iff_getElem.mp hr
    have hmem : k ∈ es.toList.map keyOf := of_decide_eq_true hpj ▸ List.getElem_mem hj
    exact wpAny_pure (wpAny_pure (fin _ _ (hold hmem _)))
  | none =>
    dsimp only
    have hnot : k ∉ es.toList.map keyOf := fun hm => by
      have := List.findIdx?_eq_none_iff.mp hr k hm
      simp at this
    have hgw : ∀ (b : Bool) {s₁ : Shared} {Q' : Unit → Shared → Prop}, Q' () s₁ → wpAny (model prog w) A.in1 (match b with | true => rule "set.scan.the-table-gave-way" | false => pure ()) Q' E s₁ :=
      fun b s₁ Q' hq => by cases b <;> first | exact wpAny_pure hq | exact wpAny_rule hq
    have hnew' := hnew hnot
    have hperm := layNew_perm t es (hashInt k) (.int k tk)
    rw [Array.toList_push] at hperm
    unfold addPure at hnew'
    rw [show hashInt k = (intKind prog w).hash k from rfl] at hnew' hperm
    generalize hLN : layNew t es ((intKind prog w).hash k) (.int k tk) = LN at hnew' hperm ⊢
    obtain ⟨es1, t1, wasDummy, gave⟩ := LN
    dsimp only at hnew' hperm ⊢
    have hsz1 : es1.size = es.size + 1 := by rw [← Array.length_toList, hperm.length_eq, List.length_append, Array.length_toList]; rfl
    refine wpAny_bind (hgw _ ?_)
    have tail : ∀ t2, t2 = t1 → wpAny (model prog w) A.in1 (do
        storeSet a es1 t2
        if (!wasDummy && t2.tooFull) = true then do
            (match (relayAll t2 es1 (SetTable.grown es1.size)).2.2 with | true => rule "set.scan.the-table-gave-way" | false => pure ())
            storeSet a (relayAll t2 es1 (SetTable.grown es1.size)).1 (relayAll t2 es1 (SetTable.grown es1.size)).2.1
            pure (some true)
          else pure (some true)) (fun r s₂ => ∃ h₂ ep₂, s₂ = { s with heap := h₂, toks := s.toks + 1 } ∧ r = some true ∧ Z b L m (upd ld a (setObj (if (!wasDummy && t1.tooFull) = true then ((relayAll t1 es1 (SetTable.grown es1.size)).1, (relayAll t1 es1 (SetTable.grown es1.size)).2.1, 2) else (es1, t1, 1)).1 ep₂
            (if (!wasDummy && t1.tooFull) = true then ((relayAll t1 es1 (SetTable.grown es1.size)).1, (relayAll t1 es1 (SetTable.grown es1.size)).2.1, 2) else (es1, t1, 1)).2.1)) h₂) E { s with toks := s.toks + 1 } := by
      rintro t2 rfl
      refine wpAny_bind (storeSet_Z (s := { s with toks := s.toks + 1 }) z ha hn (by omega) fun h₁ z₁ => ?_)
      split
      · have hsz2 : (relayAll t2 es1 (SetTable.grown es1.size)).1.size = es1.size := by
          rw [← Array.length_toList, (relayAll_perm t2 es1 (SetTable.grown es1.size)).length_eq, Array.length_toList]
        refine wpAny_bind (hgw _ ?_)
        refine wpAny_bind (storeSet_Z (s := { s with heap := h₁, toks := s.toks + 1 }) z₁ upd_self hn (by omega) fun h₂ z₂ => ?_)
        refine wpAny_pure ⟨h₂, ep + 1 + 1, rfl, rfl, z₂.mono (fun c o q => ?_) fun c o q => ?_⟩
        · by_cases hc : c = a
          · subst hc; rw [upd_self] at q ⊢; exact q
          · rw [upd_ne hc] at q ⊢; rw [upd_ne hc]; exact q
        · rw [upd_ne (fun e => by rw [e, hn.none] at q; cases q)]; exact z.base _ _ q
      · exact wpAny_pure ⟨h₁, ep + 1, rfl, rfl, z₁⟩
    have fin2 : ∀ (r : Option Bool) s₂, (∃ h₂ ep₂, s₂ = { s with heap := h₂, toks := s.toks + 1 } ∧ r = some true ∧ Z b L m (upd ld a (setObj (if (!wasDummy && t1.tooFull) = true then ((relayAll t1 es1 (SetTable.grown es1.size)).1, (relayAll t1 es1 (SetTable.grown es1.size)).2.1, 2) else (es1, t1, 1)).1 ep₂
            (if (!wasDummy && t1.tooFull) = true then ((relayAll t1 es1 (SetTable.grown es1.size)).1, (relayAll t1 es1 (SetTable.grown es1.size)).2.1, 2) else (es1, t1, 1)).2.1)) h₂) → r = some true ∧ Q .none s₂ := by
      rintro r s₂ ⟨h₂, ep₂, rfl, rfl, z₂⟩
      exact ⟨rfl, hnew' h₂ ep₂ _ z₂⟩
    split
    · refine wpAny_bind ?_
      rw [hashByValue_scannable 8 rfl]
      refine wpAny_pure ?_
      refine wpAny_mono (tail _ rfl) (fun r s₂ q => ?_) fun _ _ x => x
      obtain ⟨rfl, q'⟩ := fin2 _ _ q
      exact wpAny_pure (fin _ _ q')
    · refine wpAny_bind (wpAny_pure ?_)
      simp only [↓reduceIte]
      refine wpAny_mono (tail _ rfl) (fun r s₂ q => ?_) fun _ _ x => x
      obtain ⟨rfl, q'⟩ := fin2 _ _ q
      exact wpAny_pure (fin _ _ q')

theorem drop_fits {i n : Nat} (hi : i < n) (hf : t.fits n = true) : (t.drop i).fits (n - 1) = true := by
  simp only [SetTable.fits, Bool.and_eq_true, beq_iff_eq, decide_eq_true_eq] at hf ⊢
  obtain ⟨h1, h2⟩ := hf
  have hget : t.place[i]? = some t.place[i] := Array.getElem?_eq_getElem (by omega)
  unfold SetTable.drop
  rw [hget]
  simp only [SetTable.fill, SetTable.eraseAt, SetTable.insertAt, Array.size_append, Array.size_extract, Array.size_push] at h2 ⊢
  have hb : SetTable.below t.dummies t.place[i] ≤ t.dummies.size ∨ True := .inr trivial
  constructor
  · omega
  · omega

theorem s_discard {Q : Value → Shared → Prop} (z : Z b L m ld s.heap) (ha : ld a = some (setObj es ep t)) (hn : New b a) (hE : Els es.toList) (hf : t.fits es.size = true) (hb : es.size < 900)
    (hnot : k ∉ es.toList.map keyOf → ∀ tk', Q .none { s with toks := tk' })
    (hthere : ∀ i, (es.toList.map keyOf)[i]? = some k → ∀ h' ep' tk', Z b L m (upd ld a (setObj (SetTable.eraseAt es i) ep' (t.drop i))) h' → Q .none { s with heap := h', toks := tk' }) :
    wpAny (model prog w) A (call (.builtin "set.discard") [.ref a, .int k tk]) Q E s := by
  have hkey := intKind_is prog w k tk
  have hT : s.TypeIs (.ref a) "set" := ⟨_, z.led _ _ ha, rfl⟩
  refine wpAny_call_entry F.slot_set_discard hT F.entry_set_discard ?_ (F.args_set_discard_2 _ _)
  unfold Builtin.«set.discard» Builtin.Frozenset.oneOther
  simp only [List.isEmpty_nil, bind_assoc]
  unfold Builtin.Frozenset.addrOf Builtin.Frozenset.withSetAsKey setDiscard
  refine wpAny_bind (wpAny_pure ?_)
  try dsimp only
  refine wpAny_bind (wpAny_pure ?_)
  try dsimp only
  refine wpAny_bind (wpAny_tryCatch ?_)
  refine wpAny_holding ?_
  refine wpAny_bind ((intKind prog w).pyHash hkey ?_)
  have fin : ∀ s' (Q' : Value → Shared → Prop), Q' .none s' → wpAny (model prog w) A.in1 (ret Value.none) (fun fin s' => ∃ r, fin = .done (.ret r) ∧ Q' r s') E s' := fun s' Q' q => wpAny_pure ⟨_, rfl, q⟩
  unfold setDiscardHashed setFind setFindIn
  have hb' : es.size < scanBound := Nat.lt_trans hb (by decide)
  refine wpAny_bind (wpAny_bind (wpAny_setState_of (s := { s with toks := s.toks + 1 }) (z.led _ _ ha) rfl hf ?_))
  dsimp only
  rw [byScan_of (prog := prog) (w := w) rfl hb' hE.elems]
  simp only [↓reduceIte]
  refine wpAny_bind (wpAny_rule ?_)
  refine wpAny_bind (wpAny_setScan_of hkey (z.led _ _ ha) rfl hf hE.elems ?_)
  rw [findIdx_key hE]
  cases hr : List.findIdx? (fun x => decide (x = k)) (es.toList.map keyOf) with
  | none =>
    dsimp only
    have hnm : k ∉ es.toList.map keyOf := fun hm => by
      have := List.findIdx?_eq_none_iff.mp hr k hm
      simp at this
    exact wpAny_pure (wpAny_pure (fin _ _ (hnot hnm _)))
  | some j =>
    dsimp only
    obtain ⟨hj, hpj, _⟩ := List.findIdx?_eq_some_iff_getElem.mp hr
    refine wpAny_pure ?_
    refine wpAny_bind (wpAny_setState_of (s := { s with toks := s.toks + 1 }) (z.led _ _ ha) rfl hf ?_)
    dsimp only
    have hjs : j < es.size := by simpa using hj
    have hes : (SetTable.eraseAt es (0 + j)).size ≤ 1000 := by simp only [SetTable.eraseAt, Array.size_append, Array.size_extract]; omega
    refine wpAny_bind (storeSet_Z (s := { s with toks := s.toks + 1 }) z ha hn hes fun h₁ z₁ => ?_)
    refine wpAny_bind (wpAny_point (wpAny_pure (fin _ _ (hthere (0 + j) ?_ h₁ _ _ z₁))))
    rw [Nat.zero_add, List.getElem?_eq_getElem hj, of_decide_eq_true hpj]

/-- what the elements are behind an erasure -/
theorem eraseAt_toList (es : Array (Int × Value)) (i : Nat) : (SetTable.eraseAt es i).toList = es.toList.eraseIdx i := by
  unfold SetTable.eraseAt
  rw [Array.toList_append, Array.toList_extract, Array.toList_extract]
  simp only [List.extract_eq_drop_take, List.drop_zero, Nat.sub_zero]
  rw [List.eraseIdx_eq_take_drop_succ]
  congr 1
  rw [List.take_of_length_le]
  simp
end
end Mine

namespace Mine
open SetTable

/-- binary search: what `below` finds -/
theorem below_go {xs : Array Nat} {j : Nat} (hp : xs.toList.Pairwise (· < ·)) : ∀ (fuel lo hi : Nat), hi ≤ xs.size → lo ≤ hi → hi - lo ≤ fuel → (∀ i x, i < lo → xs[i]? = some x → x < j) → (∀ i x, hi ≤ i → xs[i]? = some x → j ≤ x) →
    (∀ i x, i < below.go xs j fuel lo hi → xs[i]? = some x → x < j) ∧ (∀ i x, below.go xs j fuel lo hi ≤ i → xs[i]? = some x → j ≤ x) ∧ below.go xs j fuel lo hi ≤ xs.size
  | 0, lo, hi, h1, h2, h3, h4, h5 => by
    have : lo = hi := by omega
    subst this
    unfold below.go
    exact ⟨h4, h5, h1⟩
  | fuel + 1, lo, hi, h1, h2, h3, h4, h5 => by
    unfold below.go
    by_cases hlt : lo < hi
    · rw [if_pos hlt]
      dsimp only
      have hm : (lo + hi) / 2 < xs.size := by omega
      have hget : xs.getD ((lo + hi) / 2) j = xs[(lo + hi) / 2] := by rw [Array.getD, dif_pos hm]; rfl
      have hmon : ∀ i i' x x', i < i' → xs[i]? = some x → xs[i']? = some x' → x < x' := fun i i' x x' hii hx hx' => by
        obtain ⟨a1, a2⟩ := Array.getElem?_eq_some_iff.mp hx
        obtain ⟨b1, b2⟩ := Array.getElem?_eq_some_iff.mp hx'
        have := List.pairwise_iff_getElem.mp hp i i' (by simpa using a1) (by simpa using b1) hii
        simpa [a2, b2] using this
      have hmid : xs[(lo + hi) / 2]? = some xs[(lo + hi) / 2] := Array.getElem?_eq_getElem hm
      rw [hget]
      by_cases hc : xs[(lo + hi) / 2] < j
      · rw [if_pos hc]
        refine below_go hp fuel _ _ h1 (by omega) (by omega) (fun i x hi' hx => ?_) h5
        rcases Nat.lt_or_ge i ((lo + hi) / 2) with q | q
        · exact Nat.lt_trans (hmon _ _ _ _ q hx hmid) hc
        · obtain rfl : i = (lo + hi) / 2 := by omega
          rw [hmid] at hx; cases hx; exact hc
      · rw [if_neg hc]
        refine below_go hp fuel _ _ (by omega) (by omega) (by omega) h4 (fun i x hi' hx => ?_)
        rcases Nat.lt_or_ge ((lo + hi) / 2) i with q | q
        · exact Nat.le_of_lt (Nat.lt_of_le_of_lt (Nat.not_lt.mp hc) (hmon _ _ _ _ q hmid hx))
        · obtain rfl : i = (lo + hi) / 2 := by omega
          rw [hmid] at hx; cases hx; exact Nat.not_lt.mp hc
    · rw [if_neg hlt]
      have : lo = hi := by omega
      subst this
      exact ⟨h4, h5, h1⟩
theorem below_spec {xs : Array Nat} {j : Nat} (hp : xs.toList.Pairwise (· < ·)) : (∀ i x, i < below xs j → xs[i]? = some x → x < j) ∧ (∀ i x, below xs j ≤ i → xs[i]? = some x → j ≤ x) ∧ below xs j ≤ xs.size :=
  below_go hp xs.size 0 xs.size (Nat.le_refl _) (Nat.zero_le _) (by omega) (fun i x h _ => absurd h (Nat.not_lt_zero _)) (fun i x h hx => by
    have := (Array.getElem?_eq_some_iff.mp hx).1; omega)

theorem toList_insertAt {α : Type} (xs : Array α) (p : Nat) (x : α) (hp : p ≤ xs.size) : (insertAt xs p x).toList = xs.toList.take p ++ x :: xs.toList.drop p := by
  unfold insertAt
  rw [Array.toList_append, Array.toList_push, Array.toList_extract, Array.toList_extract, List.extract_eq_take_drop, List.extract_eq_take_drop, List.append_assoc]
  rw [List.drop_zero, Nat.sub_zero, List.take_of_length_le (l := List.drop p xs.toList) (by simp)]
  rfl

theorem mem_of_has {xs : Array Nat} {j : Nat} (h : SetTable.has xs j = true) : j ∈ xs.toList := by
  unfold SetTable.has at h
  have := eq_of_beq h
  exact Array.mem_toList_iff.mpr (Array.mem_of_getElem? this)

theorem slot_nonempty {t : SetTable} {j : Nat} (h : t.slot j ≠ .empty) : j ∈ t.place.toList ++ t.dummies.toList := by
  unfold SetTable.slot at h
  dsimp only at h
  split at h
  · rename_i q
    exact List.mem_append_left _ (Array.mem_toList_iff.mpr (Array.mem_of_getElem? (eq_of_beq q)))
  · split at h
    · rename_i q; exact List.mem_append_right _ (mem_of_has q)
    · exact absurd rfl h
theorem slot_not_live {t : SetTable} {j : Nat} (hp : t.place.toList.Pairwise (· < ·)) (h : ∀ i, t.slot j ≠ .live i) : j ∉ t.place.toList := fun hm => by
  obtain ⟨i, hlt, hi⟩ := Array.getElem_of_mem (Array.mem_toList_iff.mp hm)
  have hi' : t.place[i]? = some j := by rw [Array.getElem?_eq_getElem hlt, hi]
  obtain ⟨b1, b2, b3⟩ := below_spec (j := j) hp
  have hb : below t.place j = i := by
    rcases Nat.lt_trichotomy (below t.place j) i with q | q | q
    · have hbl : below t.place j < t.place.size := by omega
      have hb' := Array.getElem?_eq_getElem hbl
      have := b2 _ _ (Nat.le_refl _) hb'
      have h2 := List.pairwise_iff_getElem.mp hp (below t.place j) i (by simpa using hbl) (by simpa using hlt) q
      simp only [Array.getElem_toList] at h2
      omega
    · exact q
    · exact absurd (b1 i j q hi') (Nat.lt_irrefl _)
  have := h i
  unfold SetTable.slot at this
  dsimp only at this
  rw [hb, hi'] at this
  simp at this

theorem put_rising {t : SetTable} {j : Nat} (hp : t.place.toList.Pairwise (· < ·)) (hj : j ∉ t.place.toList) : (t.put j).1.place.toList.Pairwise (· < ·) := by
  obtain ⟨b1, b2, b3⟩ := below_spec (j := j) hp
  show (insertAt t.place (below t.place j) j).toList.Pairwise (· < ·)
  rw [toList_insertAt _ _ _ b3]
  have hget : ∀ (i x : Nat), t.place.toList[i]? = some x → t.place[i]? = some x := fun i x h => by simpa using h
  rw [List.pairwise_append]
  refine ⟨hp.sublist (List.take_sublist _ _), ?_, fun a ha c hc => ?_⟩
  · rw [List.pairwise_cons]
    refine ⟨fun a ha => ?_, hp.sublist (List.drop_sublist _ _)⟩
    obtain ⟨i, hi⟩ := List.getElem?_of_mem ha
    rw [List.getElem?_drop] at hi
    have := b2 _ _ (Nat.le_add_right _ _) (hget _ _ hi)
    exact Nat.lt_of_le_of_ne this fun e => hj (e ▸ List.mem_of_mem_drop ha)
  · have h1 : a < j := by
      obtain ⟨i, hi⟩ := List.getElem?_of_mem ha
      rw [List.getElem?_take] at hi
      split at hi
      · exact b1 _ _ (by assumption) (hget _ _ hi)
      · cases hi
    rcases List.mem_cons.mp hc with rfl | hc
    · exact h1
    · obtain ⟨i, hi⟩ := List.getElem?_of_mem hc
      rw [List.getElem?_drop] at hi
      exact Nat.lt_of_lt_of_le h1 (b2 _ _ (Nat.le_add_right _ _) (hget _ _ hi))

/-- the probe's way, without its dummy -/
def step (mask : Nat) : Nat × Nat × Nat × Nat → Nat × Nat × Nat × Nat
  | (j, more, i, pt) => if more > 0 then (j + 1, more - 1, i, pt) else
    let l := leap mask i pt
    (l.1, runEnd mask l.1 - l.1, l.1, l.2)
def way (mask : Nat) : Nat → Nat × Nat × Nat × Nat → List Nat
  | 0, _ => []
  | n + 1, q => q.1 :: way mask n (step mask q)
def core (p : Probe) : Nat × Nat × Nat × Nat := (p.j, p.more, p.i, p.perturb)
theorem core_advance (t : SetTable) (p : Probe) : core (t.advance p) = step t.mask (core p) := by
  unfold SetTable.advance step core
  dsimp only
  split
  · rfl
  · rfl

theorem probe_finds {t : SetTable} {h : Int} : ∀ (n fuel : Nat) (p : Probe), n ≤ fuel → (∃ j ∈ way t.mask n (core p), t.slot j = .empty) → (∀ d, p.dummy = some d → t.slot d = .dummy) →
    ∃ j d, SetTable.probe.go t (fun _ => h + 1) h fuel p = some (.empty j d) ∧ t.slot j = .empty ∧ ∀ d', d = some d' → t.slot d' = .dummy
  | 0, _, _, _, ⟨_, hm, _⟩, _ => by cases hm
  | n + 1, 0, _, hle, _, _ => absurd hle (by omega)
  | n + 1, fuel + 1, p, hle, ⟨j, hm, hj⟩, hd => by
    unfold SetTable.probe.go
    cases hs : t.slot p.j with
    | empty => exact ⟨p.j, p.dummy, rfl, hs, hd⟩
    | dummy =>
      dsimp only
      refine probe_finds n fuel _ (by omega) ⟨j, ?_, hj⟩ ?_
      · rw [core_advance]
        rcases List.mem_cons.mp hm with rfl | hm
        · rw [show (core p).1 = p.j from rfl, hs] at hj; cases hj
        · exact hm
      · intro d q
        unfold SetTable.advance at q
        dsimp only at q
        split at q <;> (cases q; exact hs)
    | live i =>
      dsimp only
      rw [if_neg (by simp; omega)]
      refine probe_finds n fuel _ (by omega) ⟨j, ?_, hj⟩ ?_
      · rw [core_advance]
        rcases List.mem_cons.mp hm with rfl | hm
        · rw [show (core p).1 = p.j from rfl, hs] at hj; cases hj
        · exact hm
      · intro d q
        unfold SetTable.advance at q
        dsimp only at q
        split at q <;> exact hd d q

def startAt (mask k : Nat) : Nat × Nat × Nat × Nat := (k % (mask + 1), runEnd mask (k % (mask + 1)) - k % (mask + 1), k % (mask + 1), k)
def masks : List Nat := [7, 15, 31, 63]
theorem cover : ∀ mask ∈ masks, ∀ k ∈ List.range' 1 9, ∀ j ∈ List.range (mask + 1), j ∈ way mask (10 * turns mask) (startAt mask k) := by decide +kernel

theorem bits_small {k : Nat} (h : k < 100) : bits (hashInt (k : Int)) = k := by
  have : ∀ k ∈ List.range 100, bits (hashInt ((k : Nat) : Int)) = k := by decide +kernel
  exact this k (List.mem_range.mpr h)

theorem freeSlot_ok {t : SetTable} {k : Nat} (hm : t.mask ∈ masks) (hk : 1 ≤ k ∧ k ≤ 9) (hf : t.fill ≤ t.mask) (hp : t.place.toList.Pairwise (· < ·)) : ∃ slot wd, t.freeSlot (hashInt (k : Int)) = some (slot, wd) ∧ slot ∉ t.place.toList ∧ (wd = true → SetTable.has t.dummies slot = true) := by
  have hex : ∃ j ∈ way t.mask (10 * turns t.mask) (core (t.probeStart (hashInt (k : Int)))), t.slot j = .empty := by
    refine Classical.byContradiction fun hno => ?_
    have hsub : List.range (t.mask + 1) ⊆ t.place.toList ++ t.dummies.toList := fun j hj => slot_nonempty fun he => hno ⟨j, ?_, he⟩
    · have := (List.nodup_range (n := t.mask + 1)).length_le_of_subset hsub
      rw [List.length_range, List.length_append, Array.length_toList, Array.length_toList] at this
      unfold SetTable.fill at hf; omega
    · have := cover t.mask hm k (by rw [List.mem_range'_1]; omega) j hj
      have hst : core (t.probeStart (hashInt (k : Int))) = startAt t.mask k := by
        unfold core SetTable.probeStart startAt
        dsimp only
        rw [bits_small (by omega)]
      rw [hst]; exact this
  obtain ⟨j, d, h1, h2, h3⟩ := probe_finds (h := hashInt (k : Int)) (10 * turns t.mask) (10 * turns t.mask) (t.probeStart (hashInt (k : Int))) (Nat.le_refl _) hex (fun d q => by cases q)
  unfold SetTable.freeSlot
  rw [show t.probe (fun _ => hashInt (k : Int) + 1) (hashInt (k : Int)) (t.probeStart (hashInt (k : Int))) = some (.empty j d) from h1]
  dsimp only
  refine ⟨_, _, rfl, slot_not_live hp fun i q => ?_, fun q => ?_⟩
  · cases d with
    | none => rw [Option.getD_none, h2] at q; cases q
    | some d' => rw [Option.getD_some, h3 d' rfl] at q; cases q
  · cases d with
    | none => cases q
    | some d' =>
      rw [Option.getD_some]
      have hs := h3 d' rfl
      unfold SetTable.slot at hs
      dsimp only at hs
      split at hs
      · cases hs
      · split at hs
        · assumption
        · cases hs
end Mine

namespace Mine
open SetTable

structure TabOk (t : SetTable) : Prop where
  plain : t.plain = true
  rising : t.place.toList.Pairwise (· < ·)
  mask : t.mask ∈ masks
  room : t.fill * 5 < t.mask * 3

theorem TabOk.fresh (led : Bool) : TabOk (.fresh 0 0 led) := ⟨rfl, by simp [SetTable.fresh], by simp [SetTable.fresh, masks], by simp [SetTable.fresh, SetTable.fill]⟩

theorem size_insertAt {α : Type} (xs : Array α) (p : Nat) (x : α) (hp : p ≤ xs.size) : (insertAt xs p x).size = xs.size + 1 := by
  rw [← Array.length_toList, toList_insertAt _ _ _ hp, List.length_append, List.length_cons, List.length_take, List.length_drop, Array.length_toList]; omega
theorem size_eraseAt {α : Type} (xs : Array α) (p : Nat) : (eraseAt xs p).size ≤ xs.size := by
  unfold eraseAt; rw [Array.size_append, Array.size_extract, Array.size_extract]; omega

theorem put_fill {t : SetTable} {j : Nat} (hp : t.place.toList.Pairwise (· < ·)) : (t.put j).1.fill ≤ t.fill + 1 ∧ (t.put j).1.place.size = t.place.size + 1 := by
  have hb := (below_spec (j := j) hp).2.2
  have h1 : (t.put j).1.place.size = t.place.size + 1 := size_insertAt _ _ _ hb
  refine ⟨?_, h1⟩
  show (t.put j).1.place.size + (t.put j).1.dummies.size ≤ t.place.size + t.dummies.size + 1
  rw [h1]
  have : (t.put j).1.dummies.size ≤ t.dummies.size := by
    show (if SetTable.has t.dummies j then eraseAt t.dummies (below t.dummies j) else t.dummies).size ≤ _
    split
    · exact size_eraseAt _ _
    · exact Nat.le_refl _
  omega

theorem put_fill_dummy {t : SetTable} {j : Nat} (hp : t.place.toList.Pairwise (· < ·)) (hd : SetTable.has t.dummies j = true) : (t.put j).1.fill ≤ t.fill := by
  have h1 := (put_fill (j := j) hp).2
  have hb : below t.dummies j < t.dummies.size := (Array.getElem?_eq_some_iff.mp (eq_of_beq hd)).1
  show (t.put j).1.place.size + (if SetTable.has t.dummies j then eraseAt t.dummies (below t.dummies j) else t.dummies).size ≤ t.place.size + t.dummies.size
  rw [if_pos hd, h1]
  unfold eraseAt
  rw [Array.size_append, Array.size_extract, Array.size_extract]; omega

theorem layNew_ok {t : SetTable} {es : Array (Int × Value)} {k : Nat} {x : Value} (h : TabOk t) (hf : t.fits es.size = true) (hk : 1 ≤ k ∧ k ≤ 9) :
    (layNew t es (hashInt (k : Int)) x).2.1.plain = true ∧ (layNew t es (hashInt (k : Int)) x).2.1.led = t.led ∧ (layNew t es (hashInt (k : Int)) x).2.1.place.toList.Pairwise (· < ·) ∧ (layNew t es (hashInt (k : Int)) x).2.1.mask = t.mask ∧
      (layNew t es (hashInt (k : Int)) x).2.1.fill ≤ t.fill + 1 ∧ (layNew t es (hashInt (k : Int)) x).1.size = es.size + 1 ∧ ((layNew t es (hashInt (k : Int)) x).2.2.1 = true → (layNew t es (hashInt (k : Int)) x).2.1.fill ≤ t.fill) := by
  have hroom := h.room
  obtain ⟨slot, wd, hs, hns, hwd⟩ := freeSlot_ok h.mask hk (by omega) h.rising
  have hpz : t.place.size = es.size := by
    unfold SetTable.fits at hf
    rw [Bool.and_eq_true] at hf
    exact eq_of_beq hf.1
  obtain ⟨f1, f2⟩ := put_fill (j := slot) h.rising
  have hb := (below_spec (j := slot) h.rising).2.2
  have hez : (insertAt es (below t.place slot) (hashInt (k : Int), x)).size = es.size + 1 := size_insertAt _ _ _ (by rw [← hpz]; exact hb)
  have hfit : (t.put slot).1.fits (insertAt es (t.put slot).2 (hashInt (k : Int), x)).size = true := by
    unfold SetTable.fits
    rw [Bool.and_eq_true]
    refine ⟨?_, decide_eq_true ?_⟩
    · rw [f2, hpz]; exact beq_iff_eq.mpr hez.symm
    · show (t.put slot).1.fill ≤ t.mask
      omega
  unfold layNew
  rw [hs]
  dsimp only
  unfold SetTable.orStandIn
  rw [if_pos hfit]
  exact ⟨h.plain, rfl, put_rising h.rising hns, rfl, f1, hez, fun q => put_fill_dummy h.rising (hwd q)⟩
end Mine

namespace Mine
open SetTable

/-- where a key goes in a clean table -/
def home (mask : Nat) (h : Int) : Nat := bits h % (mask + 1)

theorem free_home {mask : Nat} {owner : Array (Option Nat)} {h : Int} (ho : owner.getD (home mask h) (some 0) = none) : layClean.free mask owner (turns mask) (bits h % (mask + 1)) (bits h) = some (home mask h) := by
  have : turns mask = (mask + 14) + 1 := rfl
  rw [this]
  unfold layClean.free
  have hr : ∃ r, List.range (runEnd mask (bits h % (mask + 1)) + 1 - bits h % (mask + 1)) = 0 :: r := by
    have : runEnd mask (bits h % (mask + 1)) + 1 - bits h % (mask + 1) = (runEnd mask (bits h % (mask + 1)) - bits h % (mask + 1)) + 1 := by
      have : bits h % (mask + 1) ≤ runEnd mask (bits h % (mask + 1)) := by unfold runEnd; split <;> omega
      omega
    rw [this, List.range_succ_eq_map]; exact ⟨_, rfl⟩
  obtain ⟨r, hr⟩ := hr
  rw [hr, List.find?_cons_of_pos (by rw [Nat.add_zero]; show (owner.getD (home mask h) (some 0)).isNone = true; rw [ho]; rfl)]
  rfl

def OwnIs (mask : Nat) (owner : Array (Option Nat)) (ls : List Nat) : Prop := owner.size = mask + 1 ∧ ∀ j k, owner.getD j none = some k ↔ ls[k]? = some j

theorem OwnIs.step {mask : Nat} {owner : Array (Option Nat)} {ls : List Nat} {j : Nat} (h : OwnIs mask owner ls) (hj : j < mask + 1) (hn : j ∉ ls) : owner.getD j (some 0) = none ∧ OwnIs mask (owner.setIfInBounds j (some ls.length)) (ls ++ [j]) := by
  obtain ⟨h1, h2⟩ := h
  have hjs : j < owner.size := by omega
  have hg : ∀ d, owner.getD j d = owner[j] := fun d => by rw [Array.getD, dif_pos hjs]; rfl
  have hnone : owner[j] = none := by
    cases q : owner[j] with
    | none => rfl
    | some k => exact absurd (List.mem_of_getElem? ((h2 j k).mp (by rw [hg, q]))) hn
  refine ⟨by rw [hg, hnone], by rw [Array.size_setIfInBounds]; exact h1, fun j' k => ?_⟩
  by_cases hjj : j' = j
  · subst hjj
    rw [show (owner.setIfInBounds j' (some ls.length)).getD j' none = some ls.length from by
      rw [Array.getD, dif_pos (by rw [Array.size_setIfInBounds]; exact hjs)]; simp [hjs]]
    constructor
    · intro q; cases q; rw [List.getElem?_concat_length]
    · intro q
      rcases Nat.lt_trichotomy k ls.length with hk | hk | hk
      · rw [List.getElem?_append_left hk] at q; exact absurd (List.mem_of_getElem? q) hn
      · rw [hk]
      · rw [List.getElem?_eq_none (by rw [List.length_append]; exact hk)] at q; cases q
  · rw [show (owner.setIfInBounds j (some ls.length)).getD j' none = owner.getD j' none from by
      rw [Array.getD_eq_getD_getElem?, Array.getD_eq_getD_getElem?, Array.getElem?_setIfInBounds_ne (Ne.symm hjj)], h2]
    constructor
    · intro q
      rw [List.getElem?_append_left (List.getElem?_eq_some_iff.mp q).1]; exact q
    · intro q
      rcases Nat.lt_trichotomy k ls.length with hk | hk | hk
      · rwa [List.getElem?_append_left hk] at q
      · rw [hk, List.getElem?_concat_length] at q; cases q; exact absurd rfl hjj
      · rw [List.getElem?_eq_none (by rw [List.length_append]; exact hk)] at q; cases q

theorem layClean_ok {mask : Nat} {hs : List Int} (hd : (hs.map (home mask)).Nodup) : ∃ owner, layClean mask hs.toArray = some owner ∧ OwnIs mask owner (hs.map (home mask)) := by
  have key : ∀ (hs : List Int) (ls : List Nat) (owner : Array (Option Nat)), OwnIs mask owner ls → (ls ++ hs.map (home mask)).Nodup →
      ∃ owner', hs.foldl (fun acc h => do
        let (owner, k) ← acc
        let j ← layClean.free mask owner (turns mask) (bits h % (mask + 1)) (bits h)
        pure (owner.setIfInBounds j (some k), k + 1)) (some (owner, ls.length)) = some (owner', ls.length + hs.length) ∧ OwnIs mask owner' (ls ++ hs.map (home mask)) := fun hs => by
    induction hs with
    | nil => intro ls owner h _; exact ⟨owner, rfl, by simpa using h⟩
    | cons h hs ih =>
      intro ls owner ho hn
      have hlt : home mask h < mask + 1 := Nat.mod_lt _ (by omega)
      have hnm : home mask h ∉ ls := fun hm => by
        rw [List.nodup_append] at hn
        exact hn.2.2 _ hm _ (by simp) rfl
      obtain ⟨g1, g2⟩ := ho.step hlt hnm
      obtain ⟨owner', q1, q2⟩ := ih (ls ++ [home mask h]) _ g2 (by simpa using hn)
      refine ⟨owner', ?_, by simpa using q2⟩
      rw [List.foldl_cons]
      have : (do
        let (owner, k) ← some (owner, ls.length)
        let j ← layClean.free mask owner (turns mask) (bits h % (mask + 1)) (bits h)
        pure (owner.setIfInBounds j (some k), k + 1)) = some (owner.setIfInBounds (home mask h) (some ls.length), ls.length + 1) := by
        show (layClean.free mask owner (turns mask) (bits h % (mask + 1)) (bits h)).bind _ = _
        rw [free_home g1]; rfl
      rw [this]
      rw [List.length_append, List.length_singleton] at q1
      rw [q1, List.length_cons]
      congr 2
      omega
  obtain ⟨owner, q1, q2⟩ := key hs [] (Array.replicate (mask + 1) none) ⟨by simp, fun j k => by
    rw [Array.getD_eq_getD_getElem?, Array.getElem?_replicate]
    simp only [List.getElem?_nil]
    constructor
    · intro q; split at q <;> cases q
    · intro q; cases q⟩ (by simpa using hd)
  refine ⟨owner, ?_, by simpa using q2⟩
  unfold layClean
  rw [List.foldl_toArray']
  · exact congrArg (Option.map (·.1)) q1
  · simp
end Mine

namespace Mine
open SetTable

theorem sizes_ok : ∀ n ∈ List.range' 1 9, (sizeAbove (grown n) - 1) ∈ masks ∧ n * 5 < (sizeAbove (grown n) - 1) * 3 ∧ (n = 1 ∨ 15 ≤ sizeAbove (grown n) - 1) := by decide +kernel

theorem order_perm {mask : Nat} {owner : Array (Option Nat)} {ls : List Nat} (h : OwnIs mask owner ls) (hl : ∀ j ∈ ls, j < mask + 1) :
    (((List.range (mask + 1)).filterMap fun j => (owner.getD j none).map (j, ·)).map (·.2)).Perm (List.range ls.length) := by
  rw [List.perm_ext_iff_of_nodup ?_ List.nodup_range]
  · intro k
    rw [List.mem_map]
    constructor
    · rintro ⟨⟨j, k'⟩, hm, rfl⟩
      obtain ⟨j', hj', hq⟩ := List.mem_filterMap.mp hm
      obtain ⟨k'', h1, h2⟩ := Option.map_eq_some_iff.mp hq
      cases h2
      have := (h.2 _ _).mp h1
      exact List.mem_range.mpr (List.getElem?_eq_some_iff.mp this).1
    · intro hk
      have hk := List.mem_range.mp hk
      refine ⟨(ls[k], k), List.mem_filterMap.mpr ⟨ls[k], List.mem_range.mpr (hl _ (List.getElem_mem hk)), ?_⟩, rfl⟩
      rw [(h.2 ls[k] k).mpr (List.getElem?_eq_getElem hk)]; rfl
  · unfold List.Nodup
    rw [List.pairwise_map, List.pairwise_filterMap]
    refine (List.nodup_range (n := mask + 1)).imp ?_
    intro a c hac p hp q hq e
    obtain ⟨k, h1, rfl⟩ := Option.map_eq_some_iff.mp hp
    obtain ⟨k', h2, rfl⟩ := Option.map_eq_some_iff.mp hq
    dsimp only at e
    subst e
    have e1 := (h.2 _ _).mp h1
    have e2 := (h.2 _ _).mp h2
    rw [e1] at e2
    exact hac (Option.some.inj e2)

theorem place_rising {mask : Nat} {owner : Array (Option Nat)} : (((List.range (mask + 1)).filterMap fun j => (owner.getD j none).map (j, ·)).map (·.1)).Pairwise (· < ·) := by
  rw [List.pairwise_map, List.pairwise_filterMap]
  refine (List.pairwise_lt_range (n := mask + 1)).imp ?_
  intro a c hac p hp q hq
  obtain ⟨k, h1, rfl⟩ := Option.map_eq_some_iff.mp hp
  obtain ⟨k', h2, rfl⟩ := Option.map_eq_some_iff.mp hq
  exact hac

/-- hashes of a set of small ints -/
def SmallH (es : Array (Int × Value)) : Prop := (es.toList.map (·.1)).Nodup ∧ ∀ e ∈ es.toList, ∃ k : Nat, 1 ≤ k ∧ k ≤ 9 ∧ e.1 = hashInt (k : Int)

theorem hash_inj {k k' : Nat} (h : k < 100) (h' : k' < 100) (e : hashInt (k : Int) = hashInt (k' : Int)) : k = k' := by
  have := congrArg bits e
  rwa [bits_small h, bits_small h'] at this

theorem SmallH.le {es : Array (Int × Value)} (h : SmallH es) : es.size ≤ 9 := by
  have hsub : es.toList.map (·.1) ⊆ (List.range' 1 9).map fun k : Nat => hashInt (k : Int) := fun x hx => by
    obtain ⟨e, he, rfl⟩ := List.mem_map.mp hx
    obtain ⟨k, h1, h2, h3⟩ := h.2 e he
    exact List.mem_map.mpr ⟨k, by rw [List.mem_range'_1]; omega, h3.symm⟩
  have := h.1.length_le_of_subset hsub
  simpa using this

theorem relayAll_ok {t : SetTable} {es : Array (Int × Value)} (h : SmallH es) (h1 : 1 ≤ es.size) :
    (relayAll t es (grown es.size)).2.1.plain = t.plain ∧ (relayAll t es (grown es.size)).2.1.led = t.led ∧ (relayAll t es (grown es.size)).2.1.place.toList.Pairwise (· < ·) ∧ (relayAll t es (grown es.size)).2.1.mask ∈ masks ∧
      (relayAll t es (grown es.size)).2.1.fill * 5 < (relayAll t es (grown es.size)).2.1.mask * 3 := by
  obtain ⟨s1, s2, s3⟩ := sizes_ok es.size (by have := h.le; rw [List.mem_range'_1]; omega)
  generalize hmask : sizeAbove (grown es.size) - 1 = mask at s1 s2 s3
  have hd : ((es.toList.map (·.1)).map (home mask)).Nodup := by
    rcases s3 with s3 | s3
    · have : es.toList.length = 1 := by simpa using s3
      match hes : es.toList, this with
      | [e], _ => simp
    · unfold List.Nodup
      have := h.1
      unfold List.Nodup at this
      rw [List.map_map, List.pairwise_map]
      rw [List.pairwise_map] at this
      refine this.imp_of_mem ?_
      intro a c ha hc hac e
      obtain ⟨k, k1, k2, k3⟩ := h.2 a ha
      obtain ⟨k', k1', k2', k3'⟩ := h.2 c hc
      simp only [Function.comp_apply, home, k3, k3'] at e
      rw [bits_small (by omega), bits_small (by omega), Nat.mod_eq_of_lt (by omega), Nat.mod_eq_of_lt (by omega)] at e
      exact hac (by rw [k3, k3', e])
  obtain ⟨owner, ho, how⟩ := layClean_ok hd
  have hln : ((es.toList.map (·.1)).map (home mask)).length = es.size := by simp
  have hperm := order_perm how (fun j hj => by
    obtain ⟨e, _, rfl⟩ := List.mem_map.mp hj
    exact Nat.mod_lt _ (by omega))
  rw [hln] at hperm
  have hrel : t.relaid (es.map (·.1)) (grown es.size) = some ({ mask, place := ((((List.range (mask + 1)).filterMap fun j => (owner.getD j none).map (j, ·)).map (·.1)).toArray), dummies := #[], finger := t.finger, led := t.led, moves := t.movedTo mask, plain := t.plain },
      (((List.range (mask + 1)).filterMap fun j => (owner.getD j none).map (j, ·)).map (·.2)).toArray) := by
    unfold SetTable.relaid SetTable.laid
    rw [hmask, show es.map (·.1) = (es.toList.map (·.1)).toArray by obtain ⟨l⟩ := es; simp, ho]
    rfl
  have hplz : (((List.range (mask + 1)).filterMap fun j => (owner.getD j none).map (j, ·)).map (·.1)).length = es.size := by
    rw [List.length_map]
    have := hperm.length_eq
    rw [List.length_map, List.length_range] at this
    exact this
  generalize hpl : (((List.range (mask + 1)).filterMap fun j => (owner.getD j none).map (j, ·)).map (·.1)) = pl at hrel hplz
  have hris : pl.Pairwise (· < ·) := hpl ▸ place_rising
  generalize hor : (((List.range (mask + 1)).filterMap fun j => (owner.getD j none).map (j, ·)).map (·.2)) = order at hrel hperm
  have hcov : coversAll order.toArray es.size = true := by
    unfold coversAll
    rw [List.isPerm_iff]; exact hperm
  have hez : (order.toArray.filterMap (es[·]?)).size = es.size := by
    rw [← Array.length_toList, Array.toList_filterMap]
    have h2 : ∀ l : List Nat, (∀ k ∈ l, k < es.size) → (l.filterMap (es[·]?)).length = l.length := fun l => by
      induction l with
      | nil => intro _; rfl
      | cons k l ih =>
        intro hl
        rw [List.filterMap_cons, Array.getElem?_eq_getElem (hl k (.head _))]
        dsimp only
        rw [List.length_cons, List.length_cons, ih fun k hk => hl k (.tail _ hk)]
    have h3 : order.toArray.toList = order := rfl
    rw [h3, h2 order fun k hk => List.mem_range.mp (hperm.mem_iff.mp hk), hperm.length_eq, List.length_range]
  unfold relayAll
  rw [hrel]
  dsimp only
  rw [if_pos (by
    rw [hcov, Bool.true_and]
    unfold SetTable.fits SetTable.fill
    dsimp only
    rw [hez, Bool.and_eq_true]
    refine ⟨by simp [hplz], decide_eq_true ?_⟩
    simp only [List.size_toArray, hplz, List.length_nil]
    omega)]
  refine ⟨rfl, rfl, hris, s1, ?_⟩
  unfold SetTable.fill
  dsimp only
  simp only [List.size_toArray, hplz, List.length_nil]
  omega

theorem addPure_ok {t : SetTable} {es : Array (Int × Value)} {k : Nat} {x : Value} (h : TabOk t) (hf : t.fits es.size = true) (hk : 1 ≤ k ∧ k ≤ 9) (hs : SmallH es) (hn : hashInt (k : Int) ∉ es.toList.map (·.1)) :
    TabOk (addPure t es (hashInt (k : Int)) x).2.1 ∧ (addPure t es (hashInt (k : Int)) x).2.1.led = t.led := by
  obtain ⟨a1, a2, a3, a4, a5, a6, a7⟩ := layNew_ok (x := x) h hf hk
  have hp := layNew_perm t es (hashInt (k : Int)) x
  rw [Array.toList_push] at hp
  have hs' : SmallH (layNew t es (hashInt (k : Int)) x).1 := by
    refine ⟨((hp.map (·.1)).nodup_iff).mpr ?_, fun e he => ?_⟩
    · rw [List.map_append]
      refine List.nodup_append.mpr ⟨hs.1, by simp, ?_⟩
      intro a ha c hc e
      rw [List.map_singleton, List.mem_singleton] at hc
      exact hn (by have hc' : c = hashInt (k : Int) := hc; rw [← hc', ← e]; exact ha)
    · rcases List.mem_append.mp (hp.mem_iff.mp he) with q | q
      · exact hs.2 e q
      · rw [List.mem_singleton.mp q]; exact ⟨k, hk.1, hk.2, rfl⟩
  unfold addPure
  split
  · obtain ⟨b1, b2, b3, b4, b5⟩ := relayAll_ok (t := (layNew t es (hashInt (k : Int)) x).2.1) hs' (by omega)
    exact ⟨⟨b1.trans a1, b3, b4, b5⟩, b2.trans a2⟩
  · rename_i hc
    refine ⟨⟨a1, a3, by rw [a4]; exact h.mask, ?_⟩, a2⟩
    show (layNew t es (hashInt (k : Int)) x).2.1.fill * 5 < (layNew t es (hashInt (k : Int)) x).2.1.mask * 3
    rw [a4]
    have hr := h.room
    cases hw : (layNew t es (hashInt (k : Int)) x).2.2.1 with
    | true => have := a7 hw; omega
    | false =>
      rw [hw] at hc
      simp only [Bool.not_false, Bool.true_and, SetTable.tooFull, decide_eq_true_eq, a4] at hc
      omega

theorem drop_ok {t : SetTable} {i : Nat} (h : TabOk t) (hi : i < t.place.size) : TabOk (t.drop i) ∧ (t.drop i).led = t.led := by
  have hget : t.place[i]? = some t.place[i] := Array.getElem?_eq_getElem hi
  unfold SetTable.drop
  rw [hget]
  refine ⟨⟨h.plain, ?_, h.mask, ?_⟩, rfl⟩
  · dsimp only
    refine h.rising.sublist ?_
    unfold eraseAt
    rw [Array.toList_append, Array.toList_extract, Array.toList_extract]
    simp only [List.extract_eq_take_drop, List.drop_zero, Nat.sub_zero]
    rw [List.take_of_length_le (l := List.drop (i + 1) t.place.toList) (by simp), ← List.eraseIdx_eq_take_drop_succ]
    exact List.eraseIdx_sublist _ _
  · have hr := h.room
    simp only [SetTable.fill, eraseAt, insertAt, Array.size_append, Array.size_extract, Array.size_push] at hr ⊢
    omega
end Mine

namespace Mine

/-- a set object of ints: its keys in the table's order -/
def SetK (w : World) (o : Obj) (ks : List Int) : Prop := ∃ es ep t, o = setObj es ep t ∧ Els es.toList ∧ es.toList.map keyOf = ks ∧ t.fits es.size = true ∧ ks.Nodup ∧ ks.length < 900 ∧ TabOk t ∧ t.led = !(w.params.followText "set-order") ∧ ∀ k ∈ ks, 1 ≤ k ∧ k ≤ 9

theorem SetK.fresh (w : World) : SetK w (setObj #[] 0 (.fresh 0 0 (!(w.params.followText "set-order")))) [] := ⟨_, _, _, rfl, fun _ h => by simp at h, rfl, rfl, .nil, by decide, TabOk.fresh _, rfl, fun _ h => nomatch h⟩

theorem Els.small {es : Array (Int × Value)} (h : Els es.toList) (hn : (es.toList.map keyOf).Nodup) (hr : ∀ k ∈ es.toList.map keyOf, 1 ≤ k ∧ k ≤ 9) : SmallH es := by
  have key : ∀ e ∈ es.toList, ∃ k : Nat, 1 ≤ k ∧ k ≤ 9 ∧ e.1 = hashInt (k : Int) ∧ keyOf e = k := fun e he => by
    obtain ⟨k, t, hk⟩ := h e he
    have hr' := hr (keyOf e) (List.mem_map.mpr ⟨e, he, rfl⟩)
    rw [hk] at hr'
    simp only [keyOf] at hr'
    refine ⟨k.toNat, by omega, by omega, ?_, ?_⟩
    · rw [hk, Int.toNat_of_nonneg (by omega)]
    · rw [hk, Int.toNat_of_nonneg (by omega)]; rfl
  refine ⟨?_, fun e he => let ⟨k, a, b, c, _⟩ := key e he; ⟨k, a, b, c⟩⟩
  unfold List.Nodup at hn ⊢
  rw [List.pairwise_map] at hn ⊢
  refine hn.imp_of_mem ?_
  intro a c ha hc hac e
  obtain ⟨k, k1, k2, k3, k4⟩ := key a ha
  obtain ⟨k', k1', k2', k3', k4'⟩ := key c hc
  rw [k3, k3'] at e
  exact hac (by rw [k4, k4', hash_inj (by omega) (by omega) e])

section
variable {prog : Program} {w : World} {A : Around} {E : Value → Shared → Prop} {s : Shared} {K : Frag} {mg mb : Str → Option Value} {b : Heap} {L : Addr} {m : Str → Option Value} {ld : Ld} {env : Env} {sc : Scope}
  {a : Addr} {o : Obj} {ks : List Int} {k : Int} {tk : Tok}

theorem k_in {Q : Value → Shared → Prop} (z : Z b L m ld s.heap) (ha : ld a = some o) (hS : SetK w o ks)
    (h : Q (.bool (decide (k ∈ ks))) { s with toks := s.toks + 1 }) : wpAny (model prog w) A (compareOp .In (.int k tk) (.ref a)) Q E s := by
  obtain ⟨es, ep, t, rfl, hE, rfl, hf, hnd, hb, hT, hL, hR⟩ := hS
  exact s_in z ha hE hf (by simp at hb; omega) h
theorem k_notin {Q : Value → Shared → Prop} (z : Z b L m ld s.heap) (ha : ld a = some o) (hS : SetK w o ks)
    (h : Q (.bool (!decide (k ∈ ks))) { s with toks := s.toks + 1 }) : wpAny (model prog w) A (compareOp .NotIn (.int k tk) (.ref a)) Q E s := by
  obtain ⟨es, ep, t, rfl, hE, rfl, hf, hnd, hb, hT, hL, hR⟩ := hS
  exact s_notin z ha hE hf (by simp at hb; omega) h
theorem k_len {Q : Value → Shared → Prop} (z : Z b L m ld s.heap) (ha : ld a = some o) (hS : SetK w o ks)
    (h : ∀ t' tk', Q (.int ks.length t') { s with toks := tk' }) : wpAny (model prog w) A (call (.builtin "len") [.ref a]) Q E s := by
  obtain ⟨es, ep, t, rfl, hE, rfl, hf, hnd, hb, hT, hL, hR⟩ := hS
  refine s_len z ha hf (by simp at hb; omega) fun t' tk' => ?_
  have := h t' tk'
  simpa using this
theorem km_add {pl : Sem Bool} {Q : Value × List Value → Shared → Prop} (z : Z b L m ld s.heap) (ha : ld a = some o) (hS : SetK w o ks) (h : Q (.builtin "set.add", [.ref a]) s) :
    wpAny (model prog w) A (getMethod (.ref a) "add" pl) Q E s := by
  obtain ⟨es, ep, t, rfl, hE, rfl, hf, hnd, hb, hT, hL, hR⟩ := hS
  exact sm_add z ha h
theorem km_discard {pl : Sem Bool} {Q : Value × List Value → Shared → Prop} (z : Z b L m ld s.heap) (ha : ld a = some o) (hS : SetK w o ks) (h : Q (.builtin "set.discard", [.ref a]) s) :
    wpAny (model prog w) A (getMethod (.ref a) "discard" pl) Q E s := by
  obtain ⟨es, ep, t, rfl, hE, rfl, hf, hnd, hb, hT, hL, hR⟩ := hS
  exact sm_discard z ha h

theorem Z.same {oa : Obj} (z : Z b L m ld s.heap) (ha : ld a = some oa) (hn : New b a) : Z b L m (upd ld a oa) s.heap :=
  z.mono (fun c oc e => by
    by_cases q : c = a
    · subst q; rw [upd_self] at e; cases e; exact ha
    · rw [upd_ne q] at e; exact e) fun c oc e => by
    by_cases q : c = a
    · subst q; rw [hn.none] at e; cases e
    · rw [upd_ne q]; exact z.base _ _ e

theorem k_add {Q : Value → Shared → Prop} (z : Z b L m ld s.heap) (ha : ld a = some o) (hn : New b a) (hS : SetK w o ks) (hk : 1 ≤ k ∧ k ≤ 9) (hl : ks.length < 800)
    (h : ∀ h' o' ks' tk', Z b L m (upd ld a o') h' → SetK w o' ks' → ks'.Perm (if k ∈ ks then ks else k :: ks) → Q .none { s with heap := h', toks := tk' }) :
    wpAny (model prog w) A (call (.builtin "set.add") [.ref a, .int k tk]) Q E s := by
  obtain ⟨es, ep, t, rfl, hE, rfl, hf, hnd, hb, hT, hL, hR⟩ := hS
  refine s_add z ha hn hE hf (by simp at hl; omega) (fun hm tk' => ?_) fun hm h' ep' tk' z' => ?_
  · exact h _ _ _ _ (z.same ha hn) ⟨es, ep, t, rfl, hE, rfl, hf, hnd, hb, hT, hL, hR⟩ (by rw [if_pos hm])
  · have hp := addPure_perm t es (hashInt k) (.int k tk)
    have hpk : ((addPure t es (hashInt k) (.int k tk)).1.toList.map keyOf).Perm (k :: es.toList.map keyOf) := by
      refine (hp.map keyOf).trans ?_
      rw [List.map_append]
      exact List.perm_append_comm
    have hsm := hE.small hnd hR
    obtain ⟨n, rfl⟩ := Int.eq_ofNat_of_zero_le (show 0 ≤ k by omega)
    have hhn : hashInt (n : Int) ∉ es.toList.map (·.1) := fun q => by
      obtain ⟨e, he, q⟩ := List.mem_map.mp q
      obtain ⟨k', t', hk'⟩ := hE e he
      have hr' := hR (keyOf e) (List.mem_map.mpr ⟨e, he, rfl⟩)
      have hke : keyOf e = k' := by rw [hk']; rfl
      rw [hke] at hr'
      obtain ⟨n', rfl⟩ := Int.eq_ofNat_of_zero_le (show 0 ≤ k' by omega)
      rw [hk'] at q
      have := hash_inj (by omega) (by omega) q
      subst this
      exact hm (List.mem_map.mpr ⟨e, he, hke⟩)
    obtain ⟨hT', hL'⟩ := addPure_ok (x := .int n tk) hT hf (by omega) hsm hhn
    refine h _ _ _ _ z' ⟨_, _, _, rfl, Els.perm ?_ hp, rfl, addPure_fits _ _ _ _, ?_, ?_, hT', hL'.trans hL, fun k' hk' => ?_⟩ (by rw [if_neg hm]; exact hpk)
    · intro e he
      rcases List.mem_append.mp he with he | he
      · exact hE e he
      · rw [List.mem_singleton.mp he]; exact ⟨n, tk, rfl⟩
    · exact hpk.nodup_iff.mpr (List.nodup_cons.mpr ⟨hm, hnd⟩)
    · rw [hpk.length_eq, List.length_cons]; omega
    · rcases List.mem_cons.mp (hpk.mem_iff.mp hk') with q | q
      · rw [q]; exact hk
      · exact hR _ q

theorem k_discard {Q : Value → Shared → Prop} (z : Z b L m ld s.heap) (ha : ld a = some o) (hn : New b a) (hS : SetK w o ks)
    (h : ∀ h' o' tk', Z b L m (upd ld a o') h' → SetK w o' (ks.erase k) → Q .none { s with heap := h', toks := tk' }) :
    wpAny (model prog w) A (call (.builtin "set.discard") [.ref a, .int k tk]) Q E s := by
  obtain ⟨es, ep, t, rfl, hE, rfl, hf, hnd, hb, hT, hL, hR⟩ := hS
  refine s_discard z ha hn hE hf (by simp at hb; omega) (fun hm tk' => ?_) fun i hi h' ep' tk' z' => ?_
  · exact h _ _ _ (z.same ha hn) (by rw [List.erase_of_not_mem hm]; exact ⟨es, ep, t, rfl, hE, rfl, hf, hnd, hb, hT, hL, hR⟩)
  · obtain ⟨hlt, hget⟩ := List.getElem?_eq_some_iff.mp hi
    have hlt' : i < es.size := by simpa using hlt
    have herase : (es.toList.map keyOf).erase k = (es.toList.map keyOf).eraseIdx i := by
      rw [List.erase_eq_eraseIdx_of_idxOf (i := i)]
      rw [← hget]
      exact hnd.idxOf_getElem i hlt
    have hpz : t.place.size = es.size := by
      unfold SetTable.fits at hf
      rw [Bool.and_eq_true] at hf
      exact eq_of_beq hf.1
    obtain ⟨hT', hL'⟩ := drop_ok hT (i := i) (by omega)
    refine h _ _ _ z' ⟨_, _, _, rfl, ?_, ?_, ?_, hnd.sublist List.erase_sublist, ?_, hT', hL'.trans hL, fun k' hk' => hR _ (List.erase_sublist.mem hk')⟩
    · rw [eraseAt_toList]; intro e he; exact hE e (List.mem_of_mem_eraseIdx he)
    · rw [eraseAt_toList, herase, List.eraseIdx_eq_take_drop_succ, List.eraseIdx_eq_take_drop_succ, List.map_append, List.map_take, List.map_drop]
    · have : (SetTable.eraseAt es i).size = es.size - 1 := by
        rw [← Array.length_toList, eraseAt_toList, List.length_eraseIdx_of_lt (by simpa using hlt'), Array.length_toList]
      rw [this]; exact drop_fits hlt' hf
    · exact Nat.lt_of_le_of_lt (List.length_erase_le ..) hb
end
end Mine

namespace Mine
noncomputable abbrev PP : Program := PySem.Challenge.rw_nc0035_01.row.prog
noncomputable abbrev KK (w : World) : Frag := hd01.heap_39 w.params

section
variable {w : World} {A : Around} {E : Value → Shared → Prop} {s : Shared} {mg mb : Str → Option Value} {b : Heap}

set_option maxHeartbeats 1000000 in
theorem value_spec {a ad x1 : Addr} {es : List DictEntry} {n : Nat} {o : Obj} {kvs : List (Int × Value)} {i : Int} {t : Tok} {Q : Value → Shared → Prop}
    (C : Cx (KK w) mg mb b) (hB : Bs b s.heap) (r : Room A 1) (ha : s.heap.get? a = some (instObj 256 ad)) (had : s.heap.get? ad = some (dictOf es n)) (hdt : getL "_data" es = some (some (.ref x1)))
    (hx : s.heap.get? x1 = some o) (hn : New b x1) (hk : o.IsDictOf (intKind PP w) kvs)
    (h : ∀ h' tk, Led s.heap.get? h' → Q ((valueAt kvs i).getD .none) { s with heap := h', toks := tk }) :
    wpAny (model PP w) A (call (.ref 229) [.ref a, .int i t]) Q E s := by
  refine enter (n := 0) C hB r rfl rfl rfl (BindsTo.of_eq rfl) rfl rfl rfl rfl rfl rfl rfl rfl ?_
  intro A' env L h₁ tk r' e z
  refine wpAny_execs_cons (wpAny_Return_some (MethodCall_ ?_))
  refine Attribute_Name_ (ev_loc e z rfl ?_)
  refine ga_own C z ha had hdt rfl rfl rfl rfl ?_
  refine dm_get z hx hk ?_
  refine callWith_method1 (args_cons (ev_loc e z rfl (args_nil ?_)))
  refine d_get C z hx hn hk ?_
  exact h _ _ z.led

/-- attribute facts of a clause's dict -/
structure ClDict (es : List DictEntry) (l : Addr) : Prop where
  lits : getL "lits" es = some (some (.ref l))
  rewatch : getL "rewatch" es = some none
structure AsDict (es : List DictEntry) (x1 : Addr) : Prop where
  data : getL "_data" es = some (some (.ref x1))
  value : getL "value" es = some none

/-- what rewatch makes of a clause's wishes, and what it tells -/
def rwPick (f : Int → Option Bool) : List Int → Nat → Option (Nat × Int)
  | [], _ => none
  | c :: r, i => if f c = some false then rwPick f r (i + 1) else some (i, c)
def rwSwap (lits : List Int) (lit : Int) : List Int := match lits with
  | x :: y :: r => if x = -lit then y :: -lit :: r else x :: y :: r
  | l => l
def rwAfter (f : Int → Option Bool) (lits : List Int) (lit : Int) : List Int :=
  let l1 := rwSwap lits lit
  if f (l1.getD 0 0) = some true then l1 else
  match rwPick f (l1.drop 2) 0 with
  | some (n, c) => (l1.set 1 c).set (n + 2) (-lit)
  | none => l1
def rwTold (f : Int → Option Bool) (lits : List Int) (lit : Int) : Option Int :=
  let l1 := rwSwap lits lit
  if f (l1.getD 0 0) = some true then none else
  match rwPick f (l1.drop 2) 0 with
  | some _ => none
  | none => some (l1.getD 0 0)

theorem rwSwap_two (x y : Int) (rest : List Int) (lit : Int) : rwSwap (x :: y :: rest) lit = if x = -lit then y :: -lit :: rest else x :: y :: rest := rfl

/-- all but l is as in h₀ -/
def Rest (h₀ : Heap) (l : Addr) (ld : Ld) : Prop := ∀ c o, c ≠ l → h₀.get? c = some o → ld c = some o
theorem Rest.self {h₀ : Heap} {l : Addr} : Rest h₀ l h₀.get? := fun _ _ _ e => e
theorem Rest.tmp {h₀ : Heap} {l : Addr} {ld : Ld} (r : Rest h₀ l ld) {c : Addr} {o : Obj} (hc : ld c = none) : Rest h₀ l (upd ld c o) := fun x ox q e => by
  have := r x ox q e
  rw [upd_ne (fun q => by rw [q, hc] at this; cases this)]; exact this
theorem Rest.upd {h₀ : Heap} {l : Addr} {ld : Ld} (r : Rest h₀ l ld) {o : Obj} : Rest h₀ l (Mine.upd ld l o) := fun x ox q e => by
  rw [upd_ne q]; exact r x ox q e
theorem Rest.led {h₀ h : Heap} {l : Addr} {ld : Ld} {o : Obj} (r : Rest h₀ l ld) (hl : ld l = some o) (x : Led ld h) : Led (Mine.upd h₀.get? l o) h := fun c oc e => by
  by_cases q : c = l
  · subst q; rw [upd_self] at e; cases e; exact x _ _ hl
  · rw [upd_ne q] at e; exact x _ _ (r c oc q e)
theorem upd_tmp {ld : Ld} {a c : Addr} {o oc : Obj} (ha : ld a = none) (hc : ld c = some oc) : upd ld a o c = some oc := by
  rw [upd_ne (fun q => by rw [q, ha] at hc; cases hc)]; exact hc

theorem IntsAre.set : ∀ {vs : List Value} {ns : List Int}, IntsAre vs ns → ∀ (k : Nat) (n : Int) (t : Tok), IntsAre (vs.set k (.int n t)) (ns.set k n)
  | _, _, .nil, _, _, _ => .nil
  | _, _, .cons _ _ h, 0, n, t => .cons n t h
  | _, _, .cons n' t' h, k + 1, n, t => .cons n' t' (IntsAre.set h k n t)
theorem ne_of_cls {g : Ld} {a c : Addr} {o o' : Obj} (h1 : g a = some o) (h2 : g c = some o') (h : o.cls ≠ o'.cls) : a ≠ c := fun q => by
  rw [q, h2] at h1; cases h1; exact h rfl

set_option maxHeartbeats 2000000 in
theorem rewatch_spec {c cd l a ad x1 : Addr} {ces aes : List DictEntry} {cn an ln : Nat} {vs : List Value} {lits : List Int} {o : Obj} {kvs : List (Int × Value)} {f : Int → Option Bool} {lit : Int} {t : Tok} {Q : Value → Shared → Prop}
    (C : Cx (KK w) mg mb b) (hB : Bs b s.heap) (r : Room A 2)
    (hc : s.heap.get? c = some (instObj 96 cd)) (hcd : s.heap.get? cd = some (dictOf ces cn)) (hce : ClDict ces l)
    (hl : s.heap.get? l = some (listOf vs.toArray ln)) (hln : New b l) (hi : IntsAre vs lits) (hlen : 2 ≤ lits.length) (hlen' : lits.length ≤ 100) (hin : -lit ∈ lits.take 2)
    (ha : s.heap.get? a = some (instObj 256 ad)) (had : s.heap.get? ad = some (dictOf aes an)) (hae : AsDict aes x1)
    (hx : s.heap.get? x1 = some o) (hn : New b x1) (hk : o.IsDictOf (intKind PP w) kvs) (hf : ∀ k, valueAt kvs k = (f k).map .bool)
    (h : ∀ h' tk vs' v, Led (upd s.heap.get? l (listOf vs'.toArray ln)) h' → IntsAre vs' (rwAfter f lits lit) → (match rwTold f lits lit with | none => v = .none | some i => ∃ t, v = .int i t) → Q v { s with heap := h', toks := tk }) :
    wpAny (model PP w) A (call (.ref 57) [.ref c, .ref a, .int lit t]) Q E s := by
  refine enter (n := 1) C hB r rfl rfl rfl (BindsTo.of_eq rfl) rfl rfl rfl rfl rfl rfl rfl rfl ?_
  intro A' env L h₁ tk r' e z
  dsimp only at e
  have hvl : vs.length = lits.length := hi.length
  obtain ⟨x, y, rest, rfl⟩ : ∃ x y rest, lits = x :: y :: rest := by
    match lits, hlen with
    | x :: y :: rest, _ => exact ⟨x, y, rest, rfl⟩
  have hal : a ≠ l := ne_of_cls ha hl (by simp)
  have hadl : ad ≠ l := ne_of_cls had hl (by simp)
  have hxl : x1 ≠ l := ne_of_cls hx hl (by obtain ⟨es, ep, hex, _⟩ := hk; rw [hex.1]; simp)
  -- lits = self.lits
  refine wpAny_execs_cons (wpAny_Assign_Name (Attribute_Name_ (ev_loc e z rfl (ga_own C z hc hcd hce.lits rfl rfl rfl rfl (st_loc e z fun h₂ z => ?_)))))
  -- assert -lit in lits[:2]
  refine wpAny_execs_cons (wpAny_Assert r'.handled (wpAny_isTrue_Compare1 (wpAny_UnaryOp (ev_loc e z rfl (neg_int ?_)))))
  refine ev_upto e z rfl hl (by omega) fun t1 h₃ tk₃ ht1 z => ?_
  refine in_ints z upd_self (hi.take 2) (wpAny_truthy_bool ?_)
  rw [if_pos (decide_eq_true hin)]
  -- if lits[0] == -lit
  have hl' := upd_tmp (o := listOf (vs.take 2).toArray 0) ht1 hl
  refine wpAny_execs_cons (wpAny_mono (Q := fun fl s' => fl = Flow.next ∧ ∃ h tk m ld vs1, s' = { s with heap := h, toks := tk } ∧ Z b L m ld h ∧ m "lits" = some (.ref l) ∧ m "assignments" = some (.ref a) ∧ m "lit" = some (.int lit t) ∧
      ld l = some (listOf vs1.toArray ln) ∧ IntsAre vs1 (rwSwap (x :: y :: rest) lit) ∧ Rest s.heap l ld) ?_ ?_ fun _ _ x => x)
  · refine wpAny_If (wpAny_isTrue_Compare1 (Subscript_ (ev_loc e z rfl (wpAny_Constant_int (it_int z hl' hi (v := x) rfl (by decide) (by decide) fun t2 => ?_)))))
    refine wpAny_UnaryOp (ev_loc e z rfl (neg_int (eq_int (wpAny_truthy_bool ?_))))
    by_cases hq : x = -lit
    · rw [if_pos (by rw [hq]; exact beq_self_eq_true _)]
      refine wpAny_execs_cons (as_two (b := b) r' e ?_)
      refine args_cons (Subscript_ (ev_loc e z rfl (wpAny_Constant_int (it_int z hl' hi (v := y) rfl (by decide) (by decide) fun t3 => ?_))))
      refine args_cons (wpAny_UnaryOp (ev_loc e z rfl (neg_int (args_nil ?_))))
      refine ⟨_, _, _, _, rfl, z, fun h₄ z => ?_⟩
      refine as_sub (ev_loc e z rfl (wpAny_Constant_int (l_set z hl' hln (by decide) (by rw [hvl]; simp; omega) (by omega) fun h₅ z => ?_)))
      refine as_sub (ev_loc e z rfl (wpAny_Constant_int (l_set z upd_self hln (by decide) (by rw [List.length_set, hvl]; simp only [List.length_cons]; omega) (by rw [List.length_set]; omega) fun h₆ z => ?_)))
      refine wpAny_execs_nil ⟨rfl, _, _, _, _, _, rfl, z, rfl, rfl, rfl, upd_self, ?_, (Rest.self.tmp ht1).upd.upd⟩
      rw [rwSwap_two, if_pos hq]
      cases hi with
      | cons n1 t1 hi => cases hi with
        | cons n2 t2 hi => exact .cons _ _ (.cons _ _ hi)
    · rw [if_neg (by simpa using hq)]
      refine wpAny_execs_nil ⟨rfl, _, _, _, _, vs, rfl, z, rfl, rfl, rfl, hl', ?_, Rest.self.tmp ht1⟩
      rw [rwSwap_two, if_neg hq]; exact hi
  rintro fl s' ⟨rfl, h₄, tk₄, m, ld, vs1, rfl, z, hm1, hm2, hm3, hl1, hi1, hrest⟩
  dsimp only
  obtain ⟨x', y', hsw, hxy⟩ : ∃ x' y', rwSwap (x :: y :: rest) lit = x' :: y' :: rest ∧ y' = -lit := by
    rw [rwSwap_two]
    split
    · exact ⟨_, _, rfl, rfl⟩
    · rename_i hq
      refine ⟨_, _, rfl, ?_⟩
      simp only [List.take_succ_cons, List.take_zero, List.mem_cons, List.not_mem_nil, or_false] at hin
      exact (hin.resolve_left fun q => hq q.symm).symm
  have hafter : rwAfter f (x :: y :: rest) lit = if f x' = some true then x' :: y' :: rest else match rwPick f rest 0 with
      | some (n, c) => ((x' :: y' :: rest).set 1 c).set (n + 2) (-lit)
      | none => x' :: y' :: rest := by unfold rwAfter; rw [hsw]; rfl
  have htold : rwTold f (x :: y :: rest) lit = if f x' = some true then none else match rwPick f rest 0 with
      | some _ => none
      | none => some x' := by unfold rwTold; rw [hsw]; rfl
  rw [hsw] at hi1
  rw [hafter, htold] at h
  have hv1 : vs1.length = rest.length + 2 := hi1.length
  have hlr : rest.length ≤ 98 := by simp only [List.length_cons] at hlen'; omega
  -- if assignments.value(lits[0]) is True
  refine wpAny_execs_cons (wpAny_mono (Q := fun fl s' => (fl = Flow.next ∧ f x' ≠ some true ∧ ∃ h tk, s' = { s with heap := h, toks := tk } ∧ Z b L m ld h) ∨ (fl = Flow.ret .none ∧ f x' = some true ∧ ∃ h tk, s' = { s with heap := h, toks := tk } ∧ Z b L m ld h)) ?_ ?_ fun _ _ x => x)
  · refine wpAny_If (wpAny_isTrue_Compare1 (MethodCall_ (ev_loc e z hm2 (gm_inst C z (hrest _ _ hal ha) (hrest _ _ hadl had) hae.value rfl rfl rfl ?_))))
    refine cw_K C rfl (args_cons (Subscript_ (ev_loc e z hm1 (wpAny_Constant_int (it_int z hl1 hi1 (v := x') rfl (by decide) (by decide) fun t2 => args_nil ⟨z.stays, ?_⟩)))))
    refine value_spec C z.bs r' (z.led _ _ (hrest _ _ hal ha)) (z.led _ _ (hrest _ _ hadl had)) hae.data (z.led _ _ (hrest _ _ hxl hx)) hn hk fun h₅ tk₅ led₅ => ?_
    have z := z.call0 led₅
    rw [hf x']
    refine wpAny_Constant_bool (wpAny_is_plain ?_ (wpAny_truthy_bool ?_))
    · cases f x' <;> rfl
    cases hfx : f x' with
    | none => exact wpAny_execs_nil (.inl ⟨rfl, by simp, _, _, rfl, z⟩)
    | some bb =>
      cases bb with
      | false => exact wpAny_execs_nil (.inl ⟨rfl, by simp, _, _, rfl, z⟩)
      | true => exact wpAny_execs_cons (wpAny_Return_some (wpAny_Constant_none (.inr ⟨rfl, rfl, _, _, rfl, z⟩)))
  rintro fl s' (⟨rfl, hfx, h₅, tk₅, rfl, z⟩ | ⟨rfl, hfx, h₅, tk₅, rfl, z⟩)
  rotate_left
  · rw [if_pos hfx, if_pos hfx] at h
    exact h _ _ vs1 .none (hrest.led hl1 z.led) hi1 rfl
  dsimp only
  rw [if_neg hfx, if_neg hfx] at h
  -- the search
  have hdrop : IntsAre (vs1.drop 2) rest := hi1.drop 2
  have hpick : ∀ i, i ≤ rest.length → (∀ j c, j < i → rest[j]? = some c → f c = some false) → rwPick f rest 0 = rwPick f (rest.drop i) i := by
    have gen : ∀ (l : List Int) (k i : Nat), i ≤ l.length → (∀ j c, j < i → l[j]? = some c → f c = some false) → rwPick f l k = rwPick f (l.drop i) (k + i) := by
      intro l
      induction l with
      | nil => intro k i hi _; simp at hi; subst hi; rfl
      | cons c r ih =>
        intro k i hi hj
        cases i with
        | zero => rfl
        | succ i =>
          have h1 : f c = some false := hj 0 c (Nat.succ_pos _) rfl
          simp only [rwPick, h1, if_true, List.drop_succ_cons]
          rw [ih (k + 1) i (by simp at hi; omega) fun j c' hj' hc' => hj (j + 1) c' (by omega) hc']
          congr 1; omega
    intro i hi hj
    have := gen rest 0 i hi hj
    rwa [Nat.zero_add] at this
  refine wpAny_execs_cons (wpAny_mono (Q := fun fl s' => (fl = Flow.next ∧ rwPick f rest 0 = none ∧ ∃ h tk m ld, s' = { s with heap := h, toks := tk } ∧ Z b L m ld h ∧ m "lits" = some (.ref l) ∧ ld l = some (listOf vs1.toArray ln) ∧ Rest s.heap l ld) ∨
      (fl = Flow.ret .none ∧ ∃ n c, rwPick f rest 0 = some (n, c) ∧ ∃ h tk ld vs2, s' = { s with heap := h, toks := tk } ∧ Led ld h ∧ ld l = some (listOf vs2.toArray ln) ∧ IntsAre vs2 (((x' :: y' :: rest).set 1 c).set (n + 2) (-lit)) ∧ Rest s.heap l ld)) ?_ ?_ fun _ _ x => x)
  · refine wpAny_For (Call_ (ev_bi e C z rfl PyProof.Rows.boot_enumerate (Pv.callWith_type1 (args_cons ?_)))) (by intro _; rfl)
    refine ev_from e z hm1 hl1 (by omega) fun ax h₆ tk₆ hax z => args_nil ?_
    have hsub : ∀ c o, ld c = some o → upd ld ax (listOf (vs1.drop 2).toArray 0) c = some o := fun c o q => upd_tmp hax q
    refine iter_enum r' e z upd_self (fun i m ld => m "lits" = some (.ref l) ∧ m "assignments" = some (.ref a) ∧ m "lit" = some (.int lit t) ∧ ld l = some (listOf vs1.toArray ln) ∧ Rest s.heap l ld ∧
      ∀ j c, j < i → rest[j]? = some c → f c = some false) ?_ ?_ ?_ ?_
    · intro ld₁ hs
      exact ⟨hm1, hm2, hm3, hs _ _ (hsub _ _ hl1), fun c o q e => hs _ _ (hsub _ _ (hrest c o q e)), fun j c hj => absurd hj (Nat.not_lt_zero _)⟩
    · rintro I I' hI hI' i m₁ l₁ l₂ ⟨j1, j2, j3, j4, j5, j6⟩ hk
      have hne : ∀ c o, ld c = some o → l₂ c = l₁ c := fun c o q => hk c (fun q' => by rw [← q', hsub _ _ q] at hI; cases hI) (fun q' => by rw [← q', hsub _ _ q] at hI'; cases hI')
      exact ⟨j1, j2, j3, (hne _ _ hl1).trans j4, fun c o q e => (hne _ _ (hrest c o q e)).trans (j5 c o q e), j6⟩
    · rintro I I' oI oI' i t' v m₁ lq h₇ tk₇ hI hI' hoI hoI' hv ⟨j1, j2, j3, j4, j5, j6⟩ hqx z
      obtain ⟨n, hrn, t8, rfl⟩ : ∃ n, rest[i]? = some n ∧ ∃ t8, v = .int n t8 := by
        have hlt : i < (vs1.drop 2).length := by
          have := (Array.getElem?_eq_some_iff.mp hv).1; simpa using this
        have hlt' : i < rest.length := by rw [hdrop.length] at hlt; exact hlt
        obtain ⟨t8, q⟩ := hdrop.get i rest[i] (by simp [hlt'])
        have hv' : (vs1.drop 2)[i]? = some v := by simpa using hv
        rw [q] at hv'; cases hv'
        exact ⟨rest[i], by simp [hlt'], t8, rfl⟩
      -- if assignments.value(other) is not False
      refine wpAny_execs_cons (wpAny_mono (Q := fun fl s' => (fl = Flow.next ∧ f n = some false ∧ ∃ h tk, s' = { s with heap := h, toks := tk } ∧ Z b L (fun y => if y = "other" then some (.int n t8) else if y = "n" then some (.int i t') else m₁ y) lq h) ∨
          (fl = Flow.ret .none ∧ f n ≠ some false ∧ ∃ h tk ld vs2, s' = { s with heap := h, toks := tk } ∧ Led ld h ∧ ld l = some (listOf vs2.toArray ln) ∧ IntsAre vs2 (((x' :: y' :: rest).set 1 n).set (i + 2) (-lit)) ∧ Rest s.heap l ld)) ?_ ?_ fun _ _ x => x)
      · refine wpAny_If (wpAny_isTrue_Compare1 (MethodCall_ (ev_loc e z j2 (gm_inst C z (j5 _ _ hal ha) (j5 _ _ hadl had) hae.value rfl rfl rfl ?_))))
        refine cw_K C rfl (args_cons (ev_loc e z rfl (args_nil ⟨z.stays, ?_⟩)))
        refine value_spec C z.bs r' (z.led _ _ (j5 _ _ hal ha)) (z.led _ _ (j5 _ _ hadl had)) hae.data (z.led _ _ (j5 _ _ hxl hx)) hn hk fun h₈ tk₈ led₈ => ?_
        have z := z.call0 led₈
        rw [hf n]
        refine wpAny_Constant_bool (wpAny_isNot_plain ?_ (wpAny_truthy_bool ?_))
        · cases f n <;> rfl
        by_cases hfn : f n = some false
        · rw [hfn]
          exact wpAny_execs_nil (.inl ⟨rfl, rfl, _, _, rfl, z⟩)
        · rw [if_pos (by cases q : f n with | none => rfl | some bb => cases bb with | false => exact absurd q hfn | true => rfl)]
          have hlt : i < rest.length := (List.getElem?_eq_some_iff.mp hrn).1
          refine wpAny_execs_cons (as_two (b := b) r' e ?_)
          refine args_cons (ev_loc e z rfl (args_cons (wpAny_UnaryOp (ev_loc e z j3 (neg_int (args_nil ?_))))))
          refine ⟨_, _, _, _, rfl, z, fun h₉ z => ?_⟩
          refine as_sub (ev_loc e z j1 (wpAny_Constant_int (l_set z j4 hln (by decide) (by rw [hv1]; omega) (by omega) fun h₁₀ z => ?_)))
          refine as_sub (ev_loc e z j1 (wpAny_BinOp (ev_loc e z rfl (wpAny_Constant_int (add_int (l_set z upd_self hln (by omega) (by rw [List.length_set, hv1]; omega) (by rw [List.length_set]; omega) fun h₁₁ z => ?_))))))
          refine wpAny_execs_cons (wpAny_Return_some (wpAny_Constant_none (.inr ⟨rfl, hfn, _, _, _, _, rfl, z.led, upd_self, ?_, j5.upd.upd⟩)))
          have e1 : ((i : Int) + 2).toNat = i + 2 := by omega
          have e2 : (1 : Int).toNat = 1 := rfl
          rw [e1, e2]
          exact IntsAre.set (IntsAre.set hi1 1 n t8) (i + 2) (-lit) _
      · rintro fl s' (⟨rfl, hfn, h₈, tk₈, rfl, z⟩ | ⟨rfl, hfn, h₈, tk₈, ld2, vs2, rfl, led2, hl2, hi2, hr2⟩)
        · refine wpAny_execs_nil ⟨h₈, tk₈, _, lq, rfl, z, ⟨j1, j2, j3, j4, j5, fun j c hj hc' => ?_⟩, fun _ _ => rfl⟩
          rcases Nat.lt_succ_iff_lt_or_eq.mp hj with hj | rfl
          · exact j6 j c hj hc'
          · rw [hrn] at hc'; cases hc'; exact hfn
        · refine .inr ⟨rfl, i, n, ?_, h₈, tk₈, ld2, vs2, rfl, led2, hl2, hi2, hr2⟩
          have hlt : i < rest.length := (List.getElem?_eq_some_iff.mp hrn).1
          rw [hpick i (Nat.le_of_lt hlt) j6, List.drop_eq_getElem_cons hlt]
          have : rest[i] = n := (List.getElem?_eq_some_iff.mp hrn).2
          simp only [rwPick, this, hfn, if_false]
    · rintro m₁ lq h₇ tk₇ ⟨j1, j2, j3, j4, j5, j6⟩ z
      refine .inl ⟨rfl, ?_, h₇, tk₇, m₁, lq, rfl, z, j1, j4, j5⟩
      rw [hpick rest.length (Nat.le_refl _) fun j c hj hc' => j6 j c (by simp [hv1]; omega) hc', List.drop_length]; rfl
  rintro fl s' (⟨rfl, hp, h₆, tk₆, m, ld, rfl, z, hm1, hl1, hrest⟩ | ⟨rfl, n, c, hp, h₆, tk₆, ld, vs2, rfl, led, hl2, hi2, hrest⟩)
  rotate_left
  · rw [hp] at h
    exact h _ _ vs2 .none (hrest.led hl2 led) hi2 rfl
  dsimp only
  rw [hp] at h
  refine wpAny_execs_cons (wpAny_Return_some (Subscript_ (ev_loc e z hm1 (wpAny_Constant_int (it_int z hl1 hi1 (v := x') rfl (by decide) (by decide) fun t2 => ?_)))))
  exact h _ _ vs1 _ (hrest.led hl1 z.led) hi1 ⟨t2, rfl⟩
end
end Mine

namespace Mine

def newsX (b : Heap) (ld : Ld) (n : Nat) (dx : Addr) : List (Addr × Obj) := (List.range n).filterMap fun a => if a = dx ∨ (b.get? a).isSome = true then none else (ld a).map fun o => (a, o)
theorem mem_newsX {b : Heap} {ld : Ld} {n : Nat} {dx a : Addr} {o : Obj} : (a, o) ∈ newsX b ld n dx ↔ @LT.lt Nat _ a n ∧ a ≠ dx ∧ b.get? a = none ∧ ld a = some o := by
  unfold newsX
  rw [List.mem_filterMap]
  constructor
  · rintro ⟨c, hc, h⟩
    split at h
    · cases h
    · rename_i q
      obtain ⟨o', h1, h2⟩ := Option.map_eq_some_iff.mp h
      cases h2
      exact ⟨List.mem_range.mp hc, fun e => q (.inl e), by cases e : b.get? a with | none => rfl | some x => exact absurd (.inr (by rw [e]; rfl)) q, h1⟩
  · rintro ⟨h1, h2, h3, h4⟩
    refine ⟨a, List.mem_range.mpr h1, ?_⟩
    rw [if_neg (by rintro (q | q); exact h2 q; rw [h3] at q; cases q), h4]; rfl

section
variable {prog : Program} {w : World} {A : Around} {E : Value → Shared → Prop} {s : Shared} {K : Frag} {mg mb : Str → Option Value} {b : Heap} {L : Addr} {m : Str → Option Value} {ld : Ld} {env : Env} {sc : Scope}

theorem Z.newsX (z : Z b L m ld s.heap) (dx : Addr) : News b L s.heap (newsX b ld s.heap.objs.size dx) := fun p hp => by
  obtain ⟨h1, h2, h3, h4⟩ := mem_newsX.mp hp
  exact ⟨z.led _ _ h4, z.neL h4, h3⟩
theorem newsX_ne {n : Nat} {dx : Addr} : ∀ p ∈ newsX b ld n dx, p.1 ≠ dx := fun p hp => (mem_newsX.mp hp).2.1
theorem Z.ofX (z : Z b L m ld s.heap) {h' : Heap} {m' : Loc} {dx : Addr} {o' : Obj} (F' : Fr b L h' m') (N' : News b L h' ((dx, o') :: Mine.newsX b ld s.heap.objs.size dx)) : Z b L m' (upd ld dx o') h' where
  ns := F'.ns
  led := fun a o e => by
    by_cases q : a = dx
    · subst q; rw [upd_self] at e; cases e; exact (N' _ (.head _)).1
    · rw [upd_ne q] at e
      cases hb : b.get? a with
      | some ob => have := z.base _ _ hb; rw [e] at this; cases this; exact F'.keep _ _ hb
      | none => exact (N' _ (.tail _ (mem_newsX.mpr ⟨z.lt e, q, hb, e⟩))).1
  fr := by rw [upd_ne fun q => (N' _ (.head _)).2.1 q.symm]; exact z.fr
  base := fun a o e => by
    rw [upd_ne fun q => by have := (N' _ (.head _)).2.2; rw [← q] at this; dsimp only at this; rw [e] at this; cases this]
    exact z.base _ _ e
  above := z.above

/-- a statement that is a call; what it hands back is no object -/
theorem ex_flat {ex : Expr} {pos : Pos} {Q : Flow → Shared → Prop} (e : EnvIs env sc L) (h : wpAny (model prog w) A (eval ex env) (fun v s' => (∀ a, v ≠ .ref a) ∧ Q .next s') E s)
    (hsw : swapsWith ex none pos.line env = pure false := by rfl) : wpAny (model prog w) A (exec (.Expr ex pos) env) Q E s :=
  wpAny_Expr (wpAny_mono h (fun v _ q => by cases v <;> first | exact q.2 | exact absurd rfl (q.1 _)) fun _ _ x => x) e.still hsw

theorem set_inst {x Cl dx f : Addr} {es : List DictEntry} {n : Nat} {i v : Value} {Q : Unit → Shared → Prop} (C : Cx K mg mb b) (z : Z b L m ld s.heap) (hc : ld x = some (instObj Cl dx)) (hd : ld dx = some (dictOf es n))
    (hq : noSeq K Cl = true) (hs : findIn K (.ref Cl) "__setitem__" = some (some (.ref f))) (hf : isFn K (.ref f) = true)
    (h : wpAny (model prog w) A (call (.ref f) [.ref x, i, v]) (fun _ s' => Q () s') E s) : wpAny (model prog w) A (setItem (.ref x) i v) Q E s :=
  ksp_setItem z.F C.X (inst_at z hc hd) hq hs hf h
theorem del_inst {x Cl dx f : Addr} {es : List DictEntry} {n : Nat} {i : Value} {Q : Unit → Shared → Prop} (C : Cx K mg mb b) (z : Z b L m ld s.heap) (hc : ld x = some (instObj Cl dx)) (hd : ld dx = some (dictOf es n))
    (hq : noSeq K Cl = true) (hs : findIn K (.ref Cl) "__delitem__" = some (some (.ref f))) (hf : isFn K (.ref f) = true)
    (h : wpAny (model prog w) A (call (.ref f) [.ref x, i]) (fun _ s' => Q () s') E s) : wpAny (model prog w) A (delItem (.ref x) i) Q E s := by
  have X := C.X.keeps z.stays
  have I := inst_at z hc hd
  unfold delItem sequenceKey
  refine wpAny_holding (wpAny_bind (wpAny_bind (I.type.here ?_)))
  refine wpAny_bind ((anyM_none X hq).here ?_)
  rw [if_pos (show (!false) = true from rfl)]
  exact wpAny_pure (wpAny_bind (special_fn X I hs (beq_iff_eq.mp hf) (wpAny_mono h (fun _ _ z => wpAny_pure z) fun _ _ z => z)))

/-- self.name = v -/
theorem sa_own {x Cl dx : Addr} {es : List DictEntry} {es' : Tok → List DictEntry} {n n' : Nat} {name : Str} {v : Value} {Q : Unit → Shared → Prop} (C : Cx K mg mb b) (z : Z b L m ld s.heap) (hc : ld x = some (instObj Cl dx)) (hd : ld dx = some (dictOf es n)) (hn : New b dx)
    (hs : findIn K (.ref Cl) "__setattr__" = some (some (.builtin "object.__setattr__"))) (hp : plainOver K Cl = true) (ht : takerIn K Cl name = some none) (hh : hasDictIn K Cl = true) (hl : (getL name es).isSome = true)
    (e : ∀ tk, (putL name (PyData.keyHash w.params name) (.str name tk) v es, putN name es n) = (es' tk, n')) (hz : ∀ tk, (es' tk).length ≤ 1000)
    (h : ∀ h' tk tk', Z b L m (upd ld dx (dictOf (es' tk) n')) h' → Q () { s with heap := h', toks := tk' }) :
    wpAny (model prog w) A (setAttr (.ref x) name v) Q E s := by
  refine set_dict (news := (dx, dictOf es n) :: newsX b ld s.heap.objs.size dx) z.F C.X ?_ (inst_at z hc hd) rfl hs hp ht hh hl (e _) (.head newsX_ne) (hz _) fun h' F' N' => h h' _ _ (z.ofX F' N')
  intro p hp
  rcases List.mem_cons.mp hp with rfl | hp
  · exact ⟨z.led _ _ hd, z.neL hd, hn.none⟩
  · exact z.newsX dx p hp
end
end Mine

namespace Mine

/-- the attributes of an AssignmentSet -/
def asEs (h1 h2 h3 h4 h5 h6 : Int) (t1 t2 t3 t4 t5 t6 : Tok) (x1 x2 x3 x4 x5 : Addr) : List DictEntry :=
  [⟨h1, .str "_data" t1, .ref x1⟩, ⟨h2, .str "_orig" t2, .ref x2⟩, ⟨h3, .str "_seen" t3, .ref x3⟩, ⟨h4, .str "_cached_changelog" t4, .none⟩, ⟨h5, .str "_assigned_ids" t5, .ref x4⟩, ⟨h6, .str "new_keys" t6, .ref x5⟩]

def Flat2 (v : Value) : Prop := v = .none ∨ ∃ c, v = .bool c

structure AsAddr where
  a : Addr
  ad : Addr
  x1 : Addr
  x2 : Addr
  x3 : Addr
  x4 : Addr
  x5 : Addr
/-- the addresses that turn -/
def AsAddr.W (p : AsAddr) : List Addr := [p.ad, p.x1, p.x2, p.x3, p.x4, p.x5]
structure AsAddr.Ok (b : Heap) (p : AsAddr) : Prop where
  nad : New b p.ad
  n1 : New b p.x1
  n2 : New b p.x2
  n3 : New b p.x3
  n4 : New b p.x4
  n5 : New b p.x5
  d1 : p.ad ≠ p.x1
  d2 : p.ad ≠ p.x2
  d12 : p.x1 ≠ p.x2
  d34 : p.x3 ≠ p.x4
  d35 : p.x3 ≠ p.x5
  d45 : p.x4 ≠ p.x5

structure AS (prog : Program) (w : World) (ld : Ld) (p : AsAddr) (f : Int → Option Bool) (seen asg : List Int) : Prop where
  inst : ld p.a = some (instObj 256 p.ad)
  dict : ∃ h1 h2 h3 h4 h5 h6 t1 t2 t3 t4 t5 t6 n, ld p.ad = some (dictOf (asEs h1 h2 h3 h4 h5 h6 t1 t2 t3 t4 t5 t6 p.x1 p.x2 p.x3 p.x4 p.x5) n)
  data : ∃ o kvs, ld p.x1 = some o ∧ o.IsDictOf (intKind prog w) kvs ∧ (∀ k, valueAt kvs k = (f k).map .bool) ∧ (∀ k v, valueAt kvs k = some v → -9 ≤ k ∧ k ≤ 9)
  orig : ∃ o kvs, ld p.x2 = some o ∧ o.IsDictOf (intKind prog w) kvs ∧ (∀ k v, valueAt kvs k = some v → Flat2 v) ∧ (∀ k v, valueAt kvs k = some v → -9 ≤ k ∧ k ≤ 9)
  seen : ∃ o, ld p.x3 = some o ∧ SetK w o seen ∧ ∀ k ∈ seen, 1 ≤ k ∧ k ≤ 9
  asg : ∃ o, ld p.x4 = some o ∧ SetK w o asg ∧ ∀ k ∈ asg, 1 ≤ k ∧ k ≤ 9
  nk : ∃ o ks, ld p.x5 = some o ∧ SetK w o ks ∧ ∀ k ∈ ks, 1 ≤ k ∧ k ≤ 9

theorem AS.congr {prog : Program} {w : World} {ld ld' : Ld} {p : AsAddr} {f : Int → Option Bool} {seen asg : List Int} (h : AS prog w ld p f seen asg) (ha : ld' p.a = ld p.a) (e : ∀ c ∈ p.W, ld' c = ld c) : AS prog w ld' p f seen asg where
  inst := ha.trans h.inst
  dict := let ⟨h1, h2, h3, h4, h5, h6, t1, t2, t3, t4, t5, t6, n, q⟩ := h.dict; ⟨h1, h2, h3, h4, h5, h6, t1, t2, t3, t4, t5, t6, n, (e _ (by simp [AsAddr.W])).trans q⟩
  data := let ⟨o, kvs, q, r⟩ := h.data; ⟨o, kvs, (e _ (by simp [AsAddr.W])).trans q, r⟩
  orig := let ⟨o, kvs, q, r⟩ := h.orig; ⟨o, kvs, (e _ (by simp [AsAddr.W])).trans q, r⟩
  seen := let ⟨o, q, r⟩ := h.seen; ⟨o, (e _ (by simp [AsAddr.W])).trans q, r⟩
  asg := let ⟨o, q, r⟩ := h.asg; ⟨o, (e _ (by simp [AsAddr.W])).trans q, r⟩
  nk := let ⟨o, ks, q, r⟩ := h.nk; ⟨o, ks, (e _ (by simp [AsAddr.W])).trans q, r⟩

theorem rng_le {l : List Int} (hn : l.Nodup) (h : ∀ k ∈ l, -9 ≤ k ∧ k ≤ 9) : l.length ≤ 19 := by
  have : l.length ≤ ((List.range 19).map fun (i : Nat) => (i : Int) - 9).length := hn.length_le_of_subset fun k hk => by
    obtain ⟨h1, h2⟩ := h k hk
    exact List.mem_map.mpr ⟨(k + 9).toNat, List.mem_range.mpr (by omega), by omega⟩
  simpa using this
theorem dict_le {prog : Program} {w : World} {o : Obj} {kvs : List (Int × Value)} (hk : o.IsDictOf (intKind prog w) kvs) (h : ∀ k v, valueAt kvs k = some v → -9 ≤ k ∧ k ≤ 9) : kvs.length ≤ 19 := by
  obtain ⟨es, ep, _, _, _, _, hn⟩ := hk
  have := rng_le hn fun k hk => by
    obtain ⟨p, hp, rfl⟩ := List.mem_map.mp hk
    obtain ⟨i, hi, hp'⟩ := List.getElem_of_mem hp
    exact h p.1 p.2 (valueAt_of_get (i := i) hn (by rw [List.getElem?_eq_getElem hi, hp']))
  simpa using this
theorem set_le {w : World} {o : Obj} {ks : List Int} (h : SetK w o ks) (hr : ∀ k ∈ ks, 1 ≤ k ∧ k ≤ 9) : ks.length ≤ 19 := by
  obtain ⟨es, ep, t, _, _, _, _, hn, _⟩ := h
  exact rng_le hn fun k hk => by have := hr k hk; omega
theorem setK_cls {w : World} {o : Obj} {ks : List Int} (h : SetK w o ks) : o.cls = .type "set" := by obtain ⟨es, ep, t, rfl, _⟩ := h; rfl
theorem dictOf_cls {prog : Program} {w : World} {o : Obj} {kvs : List (Int × Value)} (h : o.IsDictOf (intKind prog w) kvs) : o.cls = .type "dict" := by obtain ⟨es, ep, hex, _⟩ := h; exact hex.1

section
variable {w : World} {A : Around} {E : Value → Shared → Prop} {s : Shared} {mg mb : Str → Option Value} {b : Heap}

set_option maxHeartbeats 2000000 in
theorem update_diff_spec {p : AsAddr} {f : Int → Option Bool} {seen asg : List Int} {k : Int} {t : Tok} {v : Value} {Q : Value → Shared → Prop}
    (C : Cx (KK w) mg mb b) (hB : Bs b s.heap) (r : Room A 1) (hp : p.Ok b) (S : AS PP w s.heap.get? p f seen asg) (hkr : -9 ≤ k ∧ k ≤ 9) (hv : Flat2 v)
    (h : ∀ h' tk ld', Led ld' h' → (∀ c o, c ∉ p.W → s.heap.get? c = some o → ld' c = some o) → AS PP w ld' p f seen asg → Q .none { s with heap := h', toks := tk }) :
    wpAny (model PP w) A (call (.ref 194) [.ref p.a, .int k t, v]) Q E s := by
  refine enter (n := 0) C hB r rfl rfl rfl (BindsTo.of_eq rfl) rfl rfl rfl rfl rfl rfl rfl rfl ?_
  intro A' env L h₁ tk r' e z
  dsimp only at e
  obtain ⟨h1, h2, h3, h4, h5, h6, t1, t2, t3, t4, t5, t6, nn, hdict⟩ := S.dict
  obtain ⟨o1, kvs1, hx1, hk1, hf1, hl1⟩ := S.data
  obtain ⟨o2, kvs2, hx2, hk2, hf2, hl2⟩ := S.orig
  -- if key < 0 and value is not None
  refine wpAny_execs_cons (wpAny_mono (Q := fun fl s' => fl = Flow.next ∧ ∃ h tk m k t v, s' = { s with heap := h, toks := tk } ∧ Z b L m s.heap.get? h ∧ m "self" = some (.ref p.a) ∧ m "key" = some (.int k t) ∧ m "value" = some v ∧ -9 ≤ k ∧ k ≤ 9) ?_ ?_ fun _ _ x => x)
  · refine wpAny_If (isTrue_and (wpAny_isTrue_Compare1 (ev_loc e z rfl (wpAny_Constant_int (lt_int (wpAny_truthy_bool ?_))))))
    split
    · refine isTrue_and (wpAny_isTrue_Compare1 (ev_loc e z rfl (wpAny_Constant_none ?_)))
      refine wpAny_isNot_plain (by rcases hv with rfl | ⟨c, rfl⟩ <;> rfl) (wpAny_truthy_bool ?_)
      split
      · refine isTrue_and_nil ?_
        rw [if_pos rfl]
        refine wpAny_execs_cons (wpAny_Assign_Name (wpAny_UnaryOp (ev_loc e z rfl (neg_int (st_loc e z fun h₂ z => ?_)))))
        refine wpAny_execs_cons (wpAny_Assign_Name (wpAny_UnaryOp (ev_loc e z rfl (not_of ?_))))
        rcases hv with rfl | ⟨c, rfl⟩
        · simp at *
        · refine wpAny_truthy_bool (st_loc e z fun h₃ z => wpAny_execs_nil ⟨rfl, _, _, _, _, _, _, rfl, z, rfl, rfl, rfl, by omega, by omega⟩)
      · simp only [Bool.false_eq_true, if_false]
        exact wpAny_execs_nil ⟨rfl, _, _, _, _, _, _, rfl, z, rfl, rfl, rfl, by omega, by omega⟩
    · simp only [Bool.false_eq_true, if_false]
      exact wpAny_execs_nil ⟨rfl, _, _, _, _, _, _, rfl, z, rfl, rfl, rfl, by omega, by omega⟩
  rintro fl s' ⟨rfl, h₂, tk₂, m, k, t, v, rfl, z, hm1, hm2, hm3, hkr⟩
  dsimp only
  -- prev = self._data.get(key)
  refine wpAny_execs_cons (wpAny_Assign_Name (MethodCall_ (Attribute_Name_ (ev_loc e z hm1 (ga_own C z S.inst hdict rfl rfl rfl rfl rfl (dm_get z hx1 hk1 ?_))))))
  refine callWith_method1 (args_cons (ev_loc e z hm2 (args_nil ?_)))
  refine d_get C z hx1 hp.n1 hk1 (st_loc e z fun h₃ z => ?_)
  -- self._orig.setdefault(key, prev)
  refine wpAny_execs_cons (ex_flat e (MethodCall_ (Attribute_Name_ (ev_loc e z hm1 (ga_own C z S.inst hdict rfl rfl rfl rfl rfl (dm_setdefault z hx2 hk2 ?_))))))
  refine callWith_method1 (args_cons (ev_loc e z hm2 (args_cons (ev_loc e z rfl (args_nil ?_)))))
  refine d_setdefault C z hx2 hp.n2 hk2 (fun h₄ o2' kvs2' v' z hk2' hcase => ?_) (Nat.le_trans (dict_le hk2 hl2) (by decide))
  have hdf : Flat2 ((valueAt kvs1 k).getD .none) := by rw [hf1]; cases f k with | none => exact .inl rfl | some c => exact .inr ⟨c, rfl⟩
  have hv' : Flat2 v' := by
    rcases hcase with ⟨q, _⟩ | ⟨rfl, _⟩
    · exact hf2 _ _ q
    · exact hdf
  have hl2' : ∀ k v, valueAt kvs2' k = some v → -9 ≤ k ∧ k ≤ 9 := by
    rcases hcase with ⟨_, rfl⟩ | ⟨_, rfl⟩
    · exact hl2
    · intro k' v q
      rw [valueAt_stored] at q
      split at q
      · rename_i e; rw [e]; exact hkr
      · exact hl2 _ _ q
  have hf2' : ∀ k v, valueAt kvs2' k = some v → Flat2 v := by
    rcases hcase with ⟨_, rfl⟩ | ⟨_, rfl⟩
    · exact hf2
    · intro k' v q
      rw [valueAt_stored] at q
      split at q
      · cases q; exact hdf
      · exact hf2 _ _ q
  refine ⟨(fun c q => by rcases hv' with rfl | ⟨c, rfl⟩ <;> (cases q)), ?_⟩
  dsimp only
  -- self._cached_changelog = None
  have hinst : upd s.heap.get? p.x2 o2' p.a = some (instObj 256 p.ad) := by rw [upd_ne (ne_of_cls S.inst hx2 (by rw [dictOf_cls hk2]; simp))]; exact S.inst
  have hdict' := (upd_ne (ld := s.heap.get?) (o := o2') hp.d2).trans hdict
  refine wpAny_execs_cons (plainObj_wpAny_Assign_Attribute (wpAny_Constant_none (ev_loc e z hm1 (sa_own C z hinst hdict' hp.nad rfl rfl rfl rfl rfl (fun _ => rfl) (fun _ => by show 6 ≤ 1000; decide) fun h₅ _ tk₅ z => ?_))))
  refine wpAny_execs_nil (h h₅ tk₅ _ z.led (fun c o hc q => ?_) ?_)
  · simp only [AsAddr.W, List.mem_cons, List.not_mem_nil, or_false, not_or] at hc
    rw [upd_ne hc.1, upd_ne hc.2.2.1]; exact q
  · obtain ⟨os, hos, hS3⟩ := S.seen
    obtain ⟨oa, hoa, hS4⟩ := S.asg
    obtain ⟨ok, kk, hok, hS5⟩ := S.nk
    have ne3 : ∀ {c : Addr} {o : Obj}, s.heap.get? c = some o → o.cls = .type "set" → upd (upd s.heap.get? p.x2 o2') p.ad (dictOf (asEs h1 h2 h3 h4 h5 h6 t1 t2 t3 t4 t5 t6 p.x1 p.x2 p.x3 p.x4 p.x5) nn) c = some o := fun {c o} q hc => by
      rw [upd_ne (ne_of_cls q hdict (by rw [hc]; simp)), upd_ne (ne_of_cls q hx2 (by rw [hc, dictOf_cls hk2]; simp))]; exact q
    exact {
      inst := by rw [upd_ne (ne_of_cls S.inst hdict (by simp))]; exact hinst
      dict := ⟨h1, h2, h3, h4, h5, h6, t1, t2, t3, t4, t5, t6, nn, upd_self⟩
      data := ⟨o1, kvs1, by rw [upd_ne hp.d1.symm, upd_ne hp.d12]; exact hx1, hk1, hf1, hl1⟩
      orig := ⟨o2', kvs2', by rw [upd_ne hp.d2.symm, upd_self], hk2', hf2', hl2'⟩
      seen := ⟨os, ne3 hos (setK_cls hS3.1), hS3.1, hS3.2⟩
      asg := ⟨oa, ne3 hoa (setK_cls hS4.1), hS4.1, hS4.2⟩
      nk := ⟨ok, kk, ne3 hok (setK_cls hS5.1), hS5.1, hS5.2⟩ }
end
end Mine

namespace Mine

theorem without_rng {kvs : List (Int × Value)} {k : Int} (h : ∀ i v, valueAt kvs i = some v → -9 ≤ i ∧ i ≤ 9) : ∀ i v, valueAt (without kvs k) i = some v → -9 ≤ i ∧ i ≤ 9 := fun i v q => by
  rw [valueAt_without] at q
  split at q
  · cases q
  · exact h _ _ q
def mix (W : List Addr) (ld' ld : Ld) : Ld := fun c => if c ∈ W then ld' c else ld c
theorem mix_in {W : List Addr} {ld' ld : Ld} {c : Addr} (h : c ∈ W) : mix W ld' ld c = ld' c := by unfold mix; rw [if_pos h]
theorem mix_out {W : List Addr} {ld' ld : Ld} {c : Addr} (h : c ∉ W) : mix W ld' ld c = ld c := by unfold mix; rw [if_neg h]
theorem Z.calls {b : Heap} {L : Addr} {m : Loc} {ld ld' : Ld} {h h' : Heap} {W : List Addr} (z : Z b L m ld h) (hW : ∀ c ∈ W, New b c) (hL : L ∉ W) (x : Led ld' h') (k : ∀ c o, c ∉ W → h.get? c = some o → ld' c = some o) :
    Z b L m (mix W ld' ld) h' where
  ns := z.ns.at' fun o e => x _ _ (k _ _ hL e)
  led := fun c o e => by
    by_cases q : c ∈ W
    · rw [mix_in q] at e; exact x _ _ e
    · rw [mix_out q] at e; exact x _ _ (k _ _ q (z.led _ _ e))
  fr := by rw [mix_out hL]; exact z.fr
  base := fun c o e => by
    rw [mix_out fun q => by rw [(hW c q).none] at e; cases e]; exact z.base _ _ e
  above := z.above
theorem AsAddr.Ok.W {b : Heap} {p : AsAddr} (hp : p.Ok b) : ∀ c ∈ p.W, New b c := fun c hc => by
  simp only [AsAddr.W, List.mem_cons, List.not_mem_nil, or_false] at hc
  rcases hc with rfl | rfl | rfl | rfl | rfl | rfl
  · exact hp.nad
  · exact hp.n1
  · exact hp.n2
  · exact hp.n3
  · exact hp.n4
  · exact hp.n5
theorem AS.some {prog : Program} {w : World} {ld : Ld} {p : AsAddr} {f : Int → Option Bool} {seen asg : List Int} (S : AS prog w ld p f seen asg) {c : Addr} (hc : c ∈ p.W) : ∃ o, ld c = Option.some o := by
  simp only [AsAddr.W, List.mem_cons, List.not_mem_nil, or_false] at hc
  obtain ⟨h1, h2, h3, h4, h5, h6, t1, t2, t3, t4, t5, t6, nn, hdict⟩ := S.dict
  obtain ⟨o1, kvs1, hx1, _⟩ := S.data
  obtain ⟨o2, kvs2, hx2, _⟩ := S.orig
  obtain ⟨o3, hx3, _⟩ := S.seen
  obtain ⟨o4, hx4, _⟩ := S.asg
  obtain ⟨o5, _, hx5, _⟩ := S.nk
  rcases hc with rfl | rfl | rfl | rfl | rfl | rfl
  · exact ⟨_, hdict⟩
  · exact ⟨_, hx1⟩
  · exact ⟨_, hx2⟩
  · exact ⟨_, hx3⟩
  · exact ⟨_, hx4⟩
  · exact ⟨_, hx5⟩
theorem AS.notL {prog : Program} {w : World} {b : Heap} {L : Addr} {m : Loc} {h : Heap} {ld : Ld} {p : AsAddr} {f : Int → Option Bool} {seen asg : List Int} (S : AS prog w ld p f seen asg) (z : Z b L m ld h) : L ∉ p.W := fun hc => by
  obtain ⟨o, q⟩ := S.some hc; exact z.neL q rfl
theorem AS.a_out {prog : Program} {w : World} {ld : Ld} {p : AsAddr} {f : Int → Option Bool} {seen asg : List Int} (S : AS prog w ld p f seen asg) : p.a ∉ p.W := fun hc => by
  obtain ⟨h1, h2, h3, h4, h5, h6, t1, t2, t3, t4, t5, t6, nn, hdict⟩ := S.dict
  obtain ⟨o1, kvs1, hx1, hk1, _⟩ := S.data
  obtain ⟨o2, kvs2, hx2, hk2, _⟩ := S.orig
  obtain ⟨o3, hx3, hk3, _⟩ := S.seen
  obtain ⟨o4, hx4, hk4, _⟩ := S.asg
  obtain ⟨o5, _, hx5, hk5, _⟩ := S.nk
  simp only [AsAddr.W, List.mem_cons, List.not_mem_nil, or_false] at hc
  rcases hc with q | q | q | q | q | q
  · exact ne_of_cls S.inst hdict (by simp) q
  · exact ne_of_cls S.inst hx1 (by rw [dictOf_cls hk1]; simp) q
  · exact ne_of_cls S.inst hx2 (by rw [dictOf_cls hk2]; simp) q
  · exact ne_of_cls S.inst hx3 (by rw [setK_cls hk3]; simp) q
  · exact ne_of_cls S.inst hx4 (by rw [setK_cls hk4]; simp) q
  · exact ne_of_cls S.inst hx5 (by rw [setK_cls hk5]; simp) q
theorem AS.mixed {prog : Program} {w : World} {ld ld' : Ld} {p : AsAddr} {f f' : Int → Option Bool} {seen asg seen' asg' : List Int} (S : AS prog w ld p f seen asg) (S' : AS prog w ld' p f' seen' asg') :
    AS prog w (mix p.W ld' ld) p f' seen' asg' :=
  S'.congr (by rw [mix_out S.a_out, S.inst, S'.inst]) fun c hc => mix_in hc

/-- one of the six objects turned -/
theorem AS.setSeen {prog : Program} {w : World} {b : Heap} {ld : Ld} {p : AsAddr} {f : Int → Option Bool} {seen asg seen' : List Int} {o' : Obj} (S : AS prog w ld p f seen asg) (hp : p.Ok b) (hS : SetK w o' seen') (hl : ∀ k ∈ seen', 1 ≤ k ∧ k ≤ 9) :
    AS prog w (upd ld p.x3 o') p f seen' asg := by
  obtain ⟨h1, h2, h3, h4, h5, h6, t1, t2, t3, t4, t5, t6, nn, hdict⟩ := S.dict
  obtain ⟨o1, kvs1, hx1, hk1, r1⟩ := S.data
  obtain ⟨o2, kvs2, hx2, hk2, r2⟩ := S.orig
  obtain ⟨o3, hx3, hk3, r3⟩ := S.seen
  obtain ⟨o4, hx4, hk4, r4⟩ := S.asg
  obtain ⟨o5, k5, hx5, hk5, r5⟩ := S.nk
  exact {
    inst := by rw [upd_ne (ne_of_cls S.inst hx3 (by rw [setK_cls hk3]; simp))]; exact S.inst
    dict := ⟨h1, h2, h3, h4, h5, h6, t1, t2, t3, t4, t5, t6, nn, by rw [upd_ne (ne_of_cls hdict hx3 (by rw [setK_cls hk3]; simp))]; exact hdict⟩
    data := ⟨o1, kvs1, by rw [upd_ne (ne_of_cls hx1 hx3 (by rw [setK_cls hk3, dictOf_cls hk1]; simp))]; exact hx1, hk1, r1⟩
    orig := ⟨o2, kvs2, by rw [upd_ne (ne_of_cls hx2 hx3 (by rw [setK_cls hk3, dictOf_cls hk2]; simp))]; exact hx2, hk2, r2⟩
    seen := ⟨o', upd_self, hS, hl⟩
    asg := ⟨o4, by rw [upd_ne hp.d34.symm]; exact hx4, hk4, r4⟩
    nk := ⟨o5, k5, by rw [upd_ne hp.d35.symm]; exact hx5, hk5, r5⟩ }
theorem AS.setAsg {prog : Program} {w : World} {b : Heap} {ld : Ld} {p : AsAddr} {f : Int → Option Bool} {seen asg asg' : List Int} {o' : Obj} (S : AS prog w ld p f seen asg) (hp : p.Ok b) (hS : SetK w o' asg') (hl : ∀ k ∈ asg', 1 ≤ k ∧ k ≤ 9) :
    AS prog w (upd ld p.x4 o') p f seen asg' := by
  obtain ⟨h1, h2, h3, h4, h5, h6, t1, t2, t3, t4, t5, t6, nn, hdict⟩ := S.dict
  obtain ⟨o1, kvs1, hx1, hk1, r1⟩ := S.data
  obtain ⟨o2, kvs2, hx2, hk2, r2⟩ := S.orig
  obtain ⟨o3, hx3, hk3, r3⟩ := S.seen
  obtain ⟨o4, hx4, hk4, r4⟩ := S.asg
  obtain ⟨o5, k5, hx5, hk5, r5⟩ := S.nk
  exact {
    inst := by rw [upd_ne (ne_of_cls S.inst hx4 (by rw [setK_cls hk4]; simp))]; exact S.inst
    dict := ⟨h1, h2, h3, h4, h5, h6, t1, t2, t3, t4, t5, t6, nn, by rw [upd_ne (ne_of_cls hdict hx4 (by rw [setK_cls hk4]; simp))]; exact hdict⟩
    data := ⟨o1, kvs1, by rw [upd_ne (ne_of_cls hx1 hx4 (by rw [setK_cls hk4, dictOf_cls hk1]; simp))]; exact hx1, hk1, r1⟩
    orig := ⟨o2, kvs2, by rw [upd_ne (ne_of_cls hx2 hx4 (by rw [setK_cls hk4, dictOf_cls hk2]; simp))]; exact hx2, hk2, r2⟩
    seen := ⟨o3, by rw [upd_ne hp.d34]; exact hx3, hk3, r3⟩
    asg := ⟨o', upd_self, hS, hl⟩
    nk := ⟨o5, k5, by rw [upd_ne hp.d45.symm]; exact hx5, hk5, r5⟩ }
theorem AS.setNk {prog : Program} {w : World} {b : Heap} {ld : Ld} {p : AsAddr} {f : Int → Option Bool} {seen asg nk' : List Int} {o' : Obj} (S : AS prog w ld p f seen asg) (hp : p.Ok b) (hS : SetK w o' nk') (hl : ∀ k ∈ nk', 1 ≤ k ∧ k ≤ 9) :
    AS prog w (upd ld p.x5 o') p f seen asg := by
  obtain ⟨h1, h2, h3, h4, h5, h6, t1, t2, t3, t4, t5, t6, nn, hdict⟩ := S.dict
  obtain ⟨o1, kvs1, hx1, hk1, r1⟩ := S.data
  obtain ⟨o2, kvs2, hx2, hk2, r2⟩ := S.orig
  obtain ⟨o3, hx3, hk3, r3⟩ := S.seen
  obtain ⟨o4, hx4, hk4, r4⟩ := S.asg
  obtain ⟨o5, k5, hx5, hk5, r5⟩ := S.nk
  exact {
    inst := by rw [upd_ne (ne_of_cls S.inst hx5 (by rw [setK_cls hk5]; simp))]; exact S.inst
    dict := ⟨h1, h2, h3, h4, h5, h6, t1, t2, t3, t4, t5, t6, nn, by rw [upd_ne (ne_of_cls hdict hx5 (by rw [setK_cls hk5]; simp))]; exact hdict⟩
    data := ⟨o1, kvs1, by rw [upd_ne (ne_of_cls hx1 hx5 (by rw [setK_cls hk5, dictOf_cls hk1]; simp))]; exact hx1, hk1, r1⟩
    orig := ⟨o2, kvs2, by rw [upd_ne (ne_of_cls hx2 hx5 (by rw [setK_cls hk5, dictOf_cls hk2]; simp))]; exact hx2, hk2, r2⟩
    seen := ⟨o3, by rw [upd_ne hp.d35]; exact hx3, hk3, r3⟩
    asg := ⟨o4, by rw [upd_ne hp.d45]; exact hx4, hk4, r4⟩
    nk := ⟨o', nk', upd_self, hS, hl⟩ }
theorem AS.setData {prog : Program} {w : World} {b : Heap} {ld : Ld} {p : AsAddr} {f f' : Int → Option Bool} {seen asg : List Int} {o' : Obj} {kvs : List (Int × Value)} (S : AS prog w ld p f seen asg) (hp : p.Ok b) (hk : o'.IsDictOf (intKind prog w) kvs) (hf : ∀ k, valueAt kvs k = (f' k).map .bool) (hl : ∀ k v, valueAt kvs k = Option.some v → -9 ≤ k ∧ k ≤ 9) :
    AS prog w (upd ld p.x1 o') p f' seen asg := by
  obtain ⟨h1, h2, h3, h4, h5, h6, t1, t2, t3, t4, t5, t6, nn, hdict⟩ := S.dict
  obtain ⟨o1, kvs1, hx1, hk1, r1⟩ := S.data
  obtain ⟨o2, kvs2, hx2, hk2, r2⟩ := S.orig
  obtain ⟨o3, hx3, hk3, r3⟩ := S.seen
  obtain ⟨o4, hx4, hk4, r4⟩ := S.asg
  obtain ⟨o5, k5, hx5, hk5, r5⟩ := S.nk
  exact {
    inst := by rw [upd_ne (ne_of_cls S.inst hx1 (by rw [dictOf_cls hk1]; simp))]; exact S.inst
    dict := ⟨h1, h2, h3, h4, h5, h6, t1, t2, t3, t4, t5, t6, nn, by rw [upd_ne hp.d1]; exact hdict⟩
    data := ⟨o', kvs, upd_self, hk, hf, hl⟩
    orig := ⟨o2, kvs2, by rw [upd_ne hp.d12.symm]; exact hx2, hk2, r2⟩
    seen := ⟨o3, by rw [upd_ne (ne_of_cls hx3 hx1 (by rw [setK_cls hk3, dictOf_cls hk1]; simp))]; exact hx3, hk3, r3⟩
    asg := ⟨o4, by rw [upd_ne (ne_of_cls hx4 hx1 (by rw [setK_cls hk4, dictOf_cls hk1]; simp))]; exact hx4, hk4, r4⟩
    nk := ⟨o5, k5, by rw [upd_ne (ne_of_cls hx5 hx1 (by rw [setK_cls hk5, dictOf_cls hk1]; simp))]; exact hx5, hk5, r5⟩ }
/-- outside W all as in h₀ -/
def RestW (h₀ : Heap) (W : List Addr) (ld : Ld) : Prop := ∀ c o, c ∉ W → h₀.get? c = some o → ld c = some o
theorem RestW.self {h₀ : Heap} {W : List Addr} : RestW h₀ W h₀.get? := fun _ _ _ e => e
theorem RestW.upd {h₀ : Heap} {W : List Addr} {ld : Ld} (r : RestW h₀ W ld) {c : Addr} {o : Obj} (hc : c ∈ W) : RestW h₀ W (Mine.upd ld c o) := fun x ox q e => by
  rw [upd_ne (fun e' => q (by rw [e']; exact hc))]; exact r x ox q e
theorem RestW.mix {h₀ : Heap} {W : List Addr} {ld ld' : Ld} (r : RestW h₀ W ld) : RestW h₀ W (Mine.mix W ld' ld) := fun x ox q e => by
  rw [mix_out q]; exact r x ox q e
theorem RestW.tmp {h₀ : Heap} {W : List Addr} {ld : Ld} (r : RestW h₀ W ld) {c : Addr} {o : Obj} (hc : ld c = none) : RestW h₀ W (Mine.upd ld c o) := fun x ox q e => by
  have := r x ox q e
  rw [upd_ne (fun q => by rw [q, hc] at this; cases this)]; exact this
theorem in3 (p : AsAddr) : p.x3 ∈ p.W := by simp [AsAddr.W]
theorem in4 (p : AsAddr) : p.x4 ∈ p.W := by simp [AsAddr.W]
theorem in5 (p : AsAddr) : p.x5 ∈ p.W := by simp [AsAddr.W]
theorem in1 (p : AsAddr) : p.x1 ∈ p.W := by simp [AsAddr.W]

section
variable {w : World} {A : Around} {E : Value → Shared → Prop} {s : Shared} {mg mb : Str → Option Value} {b : Heap}

set_option maxHeartbeats 2000000 in
theorem delitem_spec {p : AsAddr} {f : Int → Option Bool} {seen asg : List Int} {k : Int} {t : Tok} {c c' : Bool} {Q : Value → Shared → Prop}
    (C : Cx (KK w) mg mb b) (hB : Bs b s.heap) (r : Room A 2) (hp : p.Ok b) (S : AS PP w s.heap.get? p f seen asg) (hk : 1 ≤ k ∧ k ≤ 9) (hfk : f k = some c) (hfk' : f (-k) = some c')
    (h : ∀ h' tk ld', Led ld' h' → RestW s.heap p.W ld' → AS PP w ld' p (fun i => if i = -k then none else if i = k then none else f i) (seen.erase k) (asg.erase k) → Q .none { s with heap := h', toks := tk }) :
    wpAny (model PP w) A (call (.ref 127) [.ref p.a, .int k t]) Q E s := by
  refine enter (n := 1) C hB r rfl rfl rfl (BindsTo.of_eq rfl) rfl rfl rfl rfl rfl rfl rfl rfl ?_
  intro A' env L h₁ tk r' e z
  dsimp only at e
  have habs : (if k < 0 then -k else k) = k := if_neg (by omega)
  obtain ⟨h1, h2, h3, h4, h5, h6, t1, t2, t3, t4, t5, t6, nn, hdict⟩ := S.dict
  -- self._seen.discard(abs(key))
  obtain ⟨o3, hx3, hk3, hl3⟩ := S.seen
  refine wpAny_execs_cons (ex_flat e (MethodCall_ (Attribute_Name_ (ev_loc e z rfl (ga_own C z S.inst hdict rfl rfl rfl rfl rfl (km_discard z hx3 hk3 ?_))))))
  refine callWith_method1 (args_cons (Call_ (ev_bi e C z rfl PyProof.Rows.boot_abs (PyProof.Rows.callWith_builtin1 (args_cons (ev_loc e z rfl (args_nil (call_abs_int fun u tk₂ => args_nil ?_))))))))
  rw [habs]
  refine k_discard z hx3 hp.n3 hk3 fun h₂ o3' tk₃ z hS3 => ⟨fun _ q => (nomatch q), ?_⟩
  have S := S.setSeen hp hS3 fun i hi => hl3 i (List.mem_of_mem_erase hi)
  have R : RestW s.heap p.W (upd s.heap.get? p.x3 o3') := RestW.self.upd (in3 p)
  generalize upd s.heap.get? p.x3 o3' = ld at z S R
  clear hx3 hk3 hdict
  dsimp only
  -- if key not in self._data: return
  obtain ⟨h1, h2, h3, h4, h5, h6, t1, t2, t3, t4, t5, t6, nn, hdict⟩ := S.dict
  obtain ⟨o1, kvs1, hx1, hk1, hf1, hl1⟩ := S.data
  refine wpAny_execs_cons (wpAny_If (wpAny_isTrue_Compare1 (ev_loc e z rfl (Attribute_Name_ (ev_loc e z rfl (ga_own C z S.inst hdict rfl rfl rfl rfl rfl (d_notin C z hx1 hp.n1 hk1 (wpAny_truthy_bool ?_))))))))
  rw [hf1, hfk, if_neg (by simp)]
  refine wpAny_execs_nil ?_
  -- self._update_diff(key, None)
  refine wpAny_execs_cons (ex_flat e (MethodCall_ (ev_loc e z rfl (gm_inst C z S.inst hdict rfl rfl rfl rfl ?_))))
  refine cw_K C rfl (args_cons (ev_loc e z rfl (args_cons (wpAny_Constant_none (args_nil ⟨z.stays, ?_⟩)))))
  have Sh : AS PP w (Shared.heap { s with heap := h₂, toks := tk₃ }).get? p f (seen.erase k) asg := S.congr ((z.led _ _ S.inst).trans S.inst.symm) fun c hc => by obtain ⟨o, q⟩ := S.some hc; exact (z.led _ _ q).trans q.symm
  refine update_diff_spec C z.bs r' hp Sh (by omega) (.inl rfl) fun h₃ tk₄ ld₃ led₃ R₃ S₃ => ⟨fun _ q => (nomatch q), ?_⟩
  have z := z.calls hp.W (S.notL z) led₃ R₃
  have S := S.mixed S₃
  have R := R.mix (ld' := ld₃)
  generalize mix p.W ld₃ ld = ld at z S R
  clear hx1 hk1 hf1 hl1 hdict
  dsimp only
  -- del self._data[key]
  obtain ⟨h1, h2, h3, h4, h5, h6, t1, t2, t3, t4, t5, t6, nn, hdict⟩ := S.dict
  obtain ⟨o1, kvs1, hx1, hk1, hf1, hl1⟩ := S.data
  refine wpAny_execs_cons (wpAny_Delete (wpAny_deleteEach_cons (delete_Subscript (Attribute_Name_ (ev_loc e z rfl (ga_own C z S.inst hdict rfl rfl rfl rfl rfl (ev_loc e z rfl (d_del z hx1 hp.n1 hk1 (by rw [hf1, hfk]; rfl) (fun h₄ o1' z hk1' => wpAny_deleteEach_nil ?_) (Nat.le_trans (dict_le hk1 hl1) (by decide))))))))))
  have S := S.setData (f' := fun i => if i = k then none else f i) hp hk1' (fun i => by rw [valueAt_without, hf1]; by_cases q : i = k <;> simp [q]) (without_rng hl1)
  have R := R.upd (in1 p) (o := o1')
  generalize upd ld p.x1 o1' = ld at z S R
  clear hx1 hk1 hf1 hl1 hdict hk1'
  -- del self._data[-key]
  obtain ⟨h1, h2, h3, h4, h5, h6, t1, t2, t3, t4, t5, t6, nn, hdict⟩ := S.dict
  obtain ⟨o1, kvs1, hx1, hk1, hf1, hl1⟩ := S.data
  have hne : ¬ (-k = k) := by omega
  refine wpAny_execs_cons (wpAny_Delete (wpAny_deleteEach_cons (delete_Subscript (Attribute_Name_ (ev_loc e z rfl (ga_own C z S.inst hdict rfl rfl rfl rfl rfl (wpAny_UnaryOp (ev_loc e z rfl (neg_int (d_del z hx1 hp.n1 hk1 (by rw [hf1, if_neg hne, hfk']; rfl) (fun h₄ o1' z hk1' => wpAny_deleteEach_nil ?_) (Nat.le_trans (dict_le hk1 hl1) (by decide))))))))))))
  have S := S.setData (f' := fun i => if i = -k then none else if i = k then none else f i) hp hk1' (fun i => by rw [valueAt_without, hf1]; by_cases q : i = -k <;> simp [q]) (without_rng hl1)
  have R := R.upd (in1 p) (o := o1')
  generalize upd ld p.x1 o1' = ld at z S R
  clear hx1 hk1 hf1 hl1 hdict hk1'
  -- self._assigned_ids.discard(abs(key))
  obtain ⟨h1, h2, h3, h4, h5, h6, t1, t2, t3, t4, t5, t6, nn, hdict⟩ := S.dict
  obtain ⟨o4, hx4, hk4, hl4⟩ := S.asg
  refine wpAny_execs_cons (ex_flat e (MethodCall_ (Attribute_Name_ (ev_loc e z rfl (ga_own C z S.inst hdict rfl rfl rfl rfl rfl (km_discard z hx4 hk4 ?_))))))
  refine callWith_method1 (args_cons (Call_ (ev_bi e C z rfl PyProof.Rows.boot_abs (PyProof.Rows.callWith_builtin1 (args_cons (ev_loc e z rfl (args_nil (call_abs_int fun u tk₂ => args_nil ?_))))))))
  rw [habs]
  refine k_discard z hx4 hp.n4 hk4 fun h₅ o4' tk₅ z hS4 => ⟨fun _ q => (nomatch q), ?_⟩
  exact wpAny_execs_nil (h h₅ tk₅ _ z.led (R.upd (in4 p)) (S.setAsg hp hS4 fun i hi => hl4 i (List.mem_of_mem_erase hi)))
end
end Mine

namespace Mine

theorem AS.here {w : World} {b : Heap} {L : Addr} {m : Loc} {h : Heap} {ld : Ld} {p : AsAddr} {f : Int → Option Bool} {seen asg : List Int} (S : AS PP w ld p f seen asg) (z : Z b L m ld h) : AS PP w h.get? p f seen asg :=
  S.congr ((z.led _ _ S.inst).trans S.inst.symm) fun c hc => by obtain ⟨o, q⟩ := S.some hc; exact (z.led _ _ q).trans q.symm

theorem perm_rng {l l' : List Int} {k : Int} (hl : ∀ i ∈ l, 1 ≤ i ∧ i ≤ 9) (hk : 1 ≤ k ∧ k ≤ 9) (hp : l'.Perm (if k ∈ l then l else k :: l)) : ∀ i ∈ l', 1 ≤ i ∧ i ≤ 9 := fun i hi => by
  have := hp.mem_iff.mp hi
  split at this
  · exact hl i this
  · rcases List.mem_cons.mp this with rfl | q
    · exact hk
    · exact hl i q
section
variable {w : World} {A : Around} {E : Value → Shared → Prop} {s : Shared} {mg mb : Str → Option Value} {b : Heap}

set_option maxHeartbeats 2000000 in
theorem setitem_spec {p : AsAddr} {f : Int → Option Bool} {seen asg : List Int} {k ak : Int} {t : Tok} {c : Bool} {Q : Value → Shared → Prop}
    (C : Cx (KK w) mg mb b) (hB : Bs b s.heap) (r : Room A 2) (hp : p.Ok b) (S : AS PP w s.heap.get? p f seen asg) (hak : (if k < 0 then -k else k) = ak) (hk : 1 ≤ ak ∧ ak ≤ 9)
    (h : ∀ h' tk ld' seen' asg', Led ld' h' → RestW s.heap p.W ld' → seen'.Perm (if ak ∈ seen then seen else ak :: seen) → asg'.Perm (if ak ∈ asg then asg else ak :: asg) →
      AS PP w ld' p (fun i => if i = -k then some (!c) else if i = k then some c else f i) seen' asg' → Q .none { s with heap := h', toks := tk }) :
    wpAny (model PP w) A (call (.ref 120) [.ref p.a, .int k t, .bool c]) Q E s := by
  refine enter (n := 1) C hB r rfl rfl rfl (BindsTo.of_eq rfl) rfl rfl rfl rfl rfl rfl rfl rfl ?_
  intro A' env L h₁ tk r' e z
  dsimp only at e
  -- abskey = abs(key)
  refine wpAny_execs_cons (wpAny_Assign_Name (Call_ (ev_bi e C z rfl PyProof.Rows.boot_abs (PyProof.Rows.callWith_builtin1 (args_cons (ev_loc e z rfl (args_nil (call_abs_int fun u tk₂ => ?_))))))))
  rw [hak]
  refine st_loc e z fun h₂ z => ?_
  -- if abskey not in self._seen: self.new_keys.add(abskey)
  obtain ⟨h1, h2, h3, h4, h5, h6, t1, t2, t3, t4, t5, t6, nn, hdict⟩ := S.dict
  obtain ⟨o3, hx3, hk3, hl3⟩ := S.seen
  refine wpAny_execs_cons (wpAny_mono (Q := fun fl s' => fl = Flow.next ∧ ∃ h tk m ld, s' = { s with heap := h, toks := tk } ∧ Z b L m ld h ∧ m "self" = some (.ref p.a) ∧ m "key" = some (.int k t) ∧ m "value" = some (.bool c) ∧ m "abskey" = some (.int ak u) ∧
      RestW s.heap p.W ld ∧ AS PP w ld p f seen asg) ?_ ?_ fun _ _ x => x)
  · refine wpAny_If (wpAny_isTrue_Compare1 (ev_loc e z rfl (Attribute_Name_ (ev_loc e z rfl (ga_own C z S.inst hdict rfl rfl rfl rfl rfl (k_notin z hx3 hk3 (wpAny_truthy_bool ?_)))))))
    split
    · obtain ⟨o5, k5, hx5, hk5, hl5⟩ := S.nk
      refine wpAny_execs_cons (ex_flat e (MethodCall_ (Attribute_Name_ (ev_loc e z rfl (ga_own C z S.inst hdict rfl rfl rfl rfl rfl (km_add z hx5 hk5 ?_))))))
      refine callWith_method1 (args_cons (ev_loc e z rfl (args_nil ?_)))
      refine k_add z hx5 hp.n5 hk5 hk (Nat.lt_of_le_of_lt (set_le hk5 hl5) (by decide)) fun h₃ o5' k5' tk₃ z hS5 hP5 => ⟨fun _ q => (nomatch q), ?_⟩
      refine wpAny_execs_nil ⟨rfl, _, _, _, _, rfl, z, rfl, rfl, rfl, rfl, RestW.self.upd (in5 p), S.setNk hp hS5 fun i hi => ?_⟩
      exact perm_rng hl5 hk hP5 i hi
    · exact wpAny_execs_nil ⟨rfl, _, _, _, _, rfl, z, rfl, rfl, rfl, rfl, RestW.self, S⟩
  rintro fl s' ⟨rfl, h₃, tk₃, m, ld, rfl, z, hm1, hm2, hm3, hm4, R, S⟩
  clear hdict hx3 hk3 hl3
  dsimp only
  -- if value is None .. else ..
  refine wpAny_execs_cons (wpAny_mono (Q := fun fl s' => fl = Flow.next ∧ ∃ h tk ld asg', s' = { s with heap := h, toks := tk } ∧ Z b L m ld h ∧ RestW s.heap p.W ld ∧ asg'.Perm (if ak ∈ asg then asg else ak :: asg) ∧
      AS PP w ld p (fun i => if i = -k then some (!c) else if i = k then some c else f i) seen asg') ?_ ?_ fun _ _ x => x)
  · refine wpAny_If (wpAny_isTrue_Compare1 (ev_loc e z hm3 (wpAny_Constant_none (wpAny_is_plain rfl (wpAny_truthy_bool ?_)))))
    rw [if_neg (by simp)]
    -- self._update_diff(key, value)
    obtain ⟨h1, h2, h3, h4, h5, h6, t1, t2, t3, t4, t5, t6, nn, hdict⟩ := S.dict
    refine wpAny_execs_cons (ex_flat e (MethodCall_ (ev_loc e z hm1 (gm_inst C z S.inst hdict rfl rfl rfl rfl ?_))))
    refine cw_K C rfl (args_cons (ev_loc e z hm2 (args_cons (ev_loc e z hm3 (args_nil ⟨z.stays, ?_⟩)))))
    refine update_diff_spec C z.bs r' hp (S.here z) (by split at hak <;> omega) (.inr ⟨c, rfl⟩) fun h₄ tk₄ ld₃ led₃ R₃ S₃ => ⟨fun _ q => (nomatch q), ?_⟩
    have z := z.calls hp.W (S.notL z) led₃ R₃
    have S := S.mixed S₃
    have R := R.mix (ld' := ld₃)
    generalize mix p.W ld₃ ld = ld at z S R
    clear hdict
    dsimp only
    -- self._data[key] = value
    obtain ⟨h1, h2, h3, h4, h5, h6, t1, t2, t3, t4, t5, t6, nn, hdict⟩ := S.dict
    obtain ⟨o1, kvs1, hx1, hk1, hf1, hl1⟩ := (AS.data S)
    refine wpAny_execs_cons (wpAny_Assign_Subscript (ev_loc e z hm3 (Attribute_Name_ (ev_loc e z hm1 (ga_own C z S.inst hdict rfl rfl rfl rfl rfl (ev_loc e z hm2 (d_set z hx1 hp.n1 hk1 (fun h₅ o1' z hk1' => ?_) (Nat.le_trans (dict_le hk1 hl1) (by decide)))))))))
    have S := S.setData (f' := fun i => if i = k then some c else f i) hp hk1' (fun i => by rw [valueAt_stored, hf1]; by_cases q : i = k <;> simp [q])
      (fun i v q => by
        rw [valueAt_stored] at q
        split at q
        · rename_i e; rw [e]; split at hak <;> omega
        · exact hl1 _ _ q)
    have R := R.upd (in1 p) (o := o1')
    generalize upd ld p.x1 o1' = ld at z S R
    clear hx1 hk1 hf1 hl1 hdict hk1'
    -- self._data[-key] = not value
    obtain ⟨h1, h2, h3, h4, h5, h6, t1, t2, t3, t4, t5, t6, nn, hdict⟩ := S.dict
    obtain ⟨o1, kvs1, hx1, hk1, hf1, hl1⟩ := (AS.data S)
    refine wpAny_execs_cons (wpAny_Assign_Subscript (wpAny_UnaryOp (ev_loc e z hm3 (not_of (wpAny_truthy_bool (Attribute_Name_ (ev_loc e z hm1 (ga_own C z S.inst hdict rfl rfl rfl rfl rfl (wpAny_UnaryOp (ev_loc e z hm2 (neg_int (d_set z hx1 hp.n1 hk1 (fun h₅ o1' z hk1' => ?_) (Nat.le_trans (dict_le hk1 hl1) (by decide))))))))))))))
    have S := S.setData (f' := fun i => if i = -k then some (!c) else if i = k then some c else f i) hp hk1' (fun i => by rw [valueAt_stored, hf1]; by_cases q : i = -k <;> simp [q])
      (fun i v q => by
        rw [valueAt_stored] at q
        split at q
        · rename_i e; rw [e]; split at hak <;> omega
        · exact hl1 _ _ q)
    have R := R.upd (in1 p) (o := o1')
    generalize upd ld p.x1 o1' = ld at z S R
    clear hx1 hk1 hf1 hl1 hdict hk1'
    -- self._assigned_ids.add(abs(key))
    obtain ⟨h1, h2, h3, h4, h5, h6, t1, t2, t3, t4, t5, t6, nn, hdict⟩ := S.dict
    obtain ⟨o4, hx4, hk4, hl4⟩ := S.asg
    refine wpAny_execs_cons (ex_flat e (MethodCall_ (Attribute_Name_ (ev_loc e z hm1 (ga_own C z S.inst hdict rfl rfl rfl rfl rfl (km_add z hx4 hk4 ?_))))))
    refine callWith_method1 (args_cons (Call_ (ev_bi e C z rfl PyProof.Rows.boot_abs (PyProof.Rows.callWith_builtin1 (args_cons (ev_loc e z hm2 (args_nil (call_abs_int fun u tk₂ => args_nil ?_))))))))
    rw [hak]
    refine k_add z hx4 hp.n4 hk4 hk (Nat.lt_of_le_of_lt (set_le hk4 hl4) (by decide)) fun h₅ o4' k4' tk₅ z hS4 hP4 => ⟨fun _ q => (nomatch q), ?_⟩
    exact wpAny_execs_nil ⟨rfl, h₅, tk₅, _, k4', rfl, z, R.upd (in4 p), hP4, S.setAsg hp hS4 (perm_rng hl4 hk hP4)⟩
  rintro fl s' ⟨rfl, h₄, tk₄, ld, asg', rfl, z, R, hPa, S⟩
  dsimp only
  -- self._seen.add(abskey)
  obtain ⟨h1, h2, h3, h4, h5, h6, t1, t2, t3, t4, t5, t6, nn, hdict⟩ := S.dict
  obtain ⟨o3, hx3, hk3, hl3⟩ := S.seen
  refine wpAny_execs_cons (ex_flat e (MethodCall_ (Attribute_Name_ (ev_loc e z hm1 (ga_own C z S.inst hdict rfl rfl rfl rfl rfl (km_add z hx3 hk3 ?_))))))
  refine callWith_method1 (args_cons (ev_loc e z hm4 (args_nil ?_)))
  refine k_add z hx3 hp.n3 hk3 hk (Nat.lt_of_le_of_lt (set_le hk3 hl3) (by decide)) fun h₅ o3' k3' tk₅ z hS3 hP3 => ⟨fun _ q => (nomatch q), ?_⟩
  refine wpAny_execs_nil (h h₅ tk₅ _ k3' asg' z.led (R.upd (in3 p)) hP3 hPa (S.setSeen hp hS3 (perm_rng hl3 hk hP3)))

set_option maxHeartbeats 2000000 in
theorem setnone_spec {p : AsAddr} {f : Int → Option Bool} {seen asg : List Int} {k : Int} {t : Tok} {c c' : Bool} {Q : Value → Shared → Prop}
    (C : Cx (KK w) mg mb b) (hB : Bs b s.heap) (r : Room A 3) (hp : p.Ok b) (S : AS PP w s.heap.get? p f seen asg) (hk : 1 ≤ k ∧ k ≤ 9) (hfk : f k = some c) (hfk' : f (-k) = some c')
    (h : ∀ h' tk ld' seen', Led ld' h' → RestW s.heap p.W ld' → seen'.Perm (k :: seen.erase k) →
      AS PP w ld' p (fun i => if i = -k then none else if i = k then none else f i) seen' (asg.erase k) → Q .none { s with heap := h', toks := tk }) :
    wpAny (model PP w) A (call (.ref 120) [.ref p.a, .int k t, .none]) Q E s := by
  refine enter (n := 2) C hB r rfl rfl rfl (BindsTo.of_eq rfl) rfl rfl rfl rfl rfl rfl rfl rfl ?_
  intro A' env L h₁ tk r' e z
  dsimp only at e
  have hak : (if k < 0 then -k else k) = k := if_neg (by omega)
  -- abskey = abs(key)
  refine wpAny_execs_cons (wpAny_Assign_Name (Call_ (ev_bi e C z rfl PyProof.Rows.boot_abs (PyProof.Rows.callWith_builtin1 (args_cons (ev_loc e z rfl (args_nil (call_abs_int fun u tk₂ => ?_))))))))
  rw [hak]
  refine st_loc e z fun h₂ z => ?_
  -- if abskey not in self._seen: self.new_keys.add(abskey)
  obtain ⟨h1, h2, h3, h4, h5, h6, t1, t2, t3, t4, t5, t6, nn, hdict⟩ := S.dict
  obtain ⟨o3, hx3, hk3, hl3⟩ := S.seen
  have hnd : seen.Nodup := by obtain ⟨_, _, _, _, _, _, _, q, _⟩ := hk3; exact q
  refine wpAny_execs_cons (wpAny_mono (Q := fun fl s' => fl = Flow.next ∧ ∃ h tk m ld, s' = { s with heap := h, toks := tk } ∧ Z b L m ld h ∧ m "self" = some (.ref p.a) ∧ m "key" = some (.int k t) ∧ m "value" = some .none ∧ m "abskey" = some (.int k u) ∧
      RestW s.heap p.W ld ∧ AS PP w ld p f seen asg) ?_ ?_ fun _ _ x => x)
  · refine wpAny_If (wpAny_isTrue_Compare1 (ev_loc e z rfl (Attribute_Name_ (ev_loc e z rfl (ga_own C z S.inst hdict rfl rfl rfl rfl rfl (k_notin z hx3 hk3 (wpAny_truthy_bool ?_)))))))
    split
    · obtain ⟨o5, k5, hx5, hk5, hl5⟩ := S.nk
      refine wpAny_execs_cons (ex_flat e (MethodCall_ (Attribute_Name_ (ev_loc e z rfl (ga_own C z S.inst hdict rfl rfl rfl rfl rfl (km_add z hx5 hk5 ?_))))))
      refine callWith_method1 (args_cons (ev_loc e z rfl (args_nil ?_)))
      refine k_add z hx5 hp.n5 hk5 hk (Nat.lt_of_le_of_lt (set_le hk5 hl5) (by decide)) fun h₃ o5' k5' tk₃ z hS5 hP5 => ⟨fun _ q => (nomatch q), ?_⟩
      exact wpAny_execs_nil ⟨rfl, _, _, _, _, rfl, z, rfl, rfl, rfl, rfl, RestW.self.upd (in5 p), S.setNk hp hS5 (perm_rng hl5 hk hP5)⟩
    · exact wpAny_execs_nil ⟨rfl, _, _, _, _, rfl, z, rfl, rfl, rfl, rfl, RestW.self, S⟩
  rintro fl s' ⟨rfl, h₃, tk₃, m, ld, rfl, z, hm1, hm2, hm3, hm4, R, S⟩
  clear hdict hx3 hk3 hl3
  dsimp only
  -- if value is None: del self[key]
  obtain ⟨h1, h2, h3, h4, h5, h6, t1, t2, t3, t4, t5, t6, nn, hdict⟩ := S.dict
  refine wpAny_execs_cons (wpAny_If (wpAny_isTrue_Compare1 (ev_loc e z hm3 (wpAny_Constant_none (wpAny_is_plain rfl (wpAny_truthy_bool ?_))))))
  rw [if_pos (by decide)]
  refine wpAny_execs_cons (wpAny_Delete (wpAny_deleteEach_cons (delete_Subscript (ev_loc e z hm1 (ev_loc e z hm2 (del_inst C z S.inst hdict rfl rfl rfl ?_))))))
  refine delitem_spec C z.bs r' hp (S.here z) hk hfk hfk' fun h₄ tk₄ ld₃ led₃ R₃ S₃ => wpAny_deleteEach_nil (wpAny_execs_nil ?_)
  have z := z.calls hp.W (S.notL z) led₃ R₃
  have S := S.mixed S₃
  have R := R.mix (ld' := ld₃)
  generalize mix p.W ld₃ ld = ld at z S R
  clear hdict
  dsimp only
  -- self._seen.add(abskey)
  obtain ⟨h1, h2, h3, h4, h5, h6, t1, t2, t3, t4, t5, t6, nn, hdict⟩ := S.dict
  obtain ⟨o3, hx3, hk3, hl3⟩ := S.seen
  refine wpAny_execs_cons (ex_flat e (MethodCall_ (Attribute_Name_ (ev_loc e z hm1 (ga_own C z S.inst hdict rfl rfl rfl rfl rfl (km_add z hx3 hk3 ?_))))))
  refine callWith_method1 (args_cons (ev_loc e z hm4 (args_nil ?_)))
  refine k_add z hx3 hp.n3 hk3 hk (Nat.lt_of_le_of_lt (set_le hk3 hl3) (by decide)) fun h₅ o3' k3' tk₅ z hS3 hP3 => ⟨fun _ q => (nomatch q), ?_⟩
  refine wpAny_execs_nil (h h₅ tk₅ _ k3' z.led (R.upd (in3 p)) ?_ (S.setSeen hp hS3 (perm_rng hl3 hk hP3)))
  rwa [if_neg (fun q => (hnd.mem_erase_iff.mp q).1 rfl)] at hP3
end
end Mine

namespace Mine

section
variable {prog : Program} {w : World} {A : Around} {E : Value → Shared → Prop} {s : Shared} {K : Frag} {mg mb : Str → Option Value} {b : Heap} {L : Addr} {m : Str → Option Value} {ld : Ld} {env : Env} {sc : Scope}

theorem enterC {n : Nat} {f : Addr} {oc : Value} {od : Option Addr} {osl : Array (Option Value)} {fd : FuncData} {body : List Stmt} {pos : List Value} {kw : List (Str × Value)} {binds : List (Str × Value)} {R : Result → Shared → Prop}
    (C : Cx K mg mb b) (hB : Bs b s.heap) (r : Room A (n + 1)) (ho : K.lookup f = some ⟨oc, od, .func fd, osl⟩) (hcd : codeIn K fd.code fd.qualname = true)
    (hbody : fd.body = .stmts body) (hbind : BindsTo s fd ⟨pos, kw⟩ binds)
    (hcell : (fd.scope.names.all fun x => decide (x.2 ≠ .cell)) = true) (hloc : (binds.all fun x => decide (fd.scope.names.lookup x.1 = some .local)) = true)
    (hg : fd.globals = mainGlobals) (hbu : fd.builtins = builtinsNs) (hcl : fd.closure = []) (hco : fd.scope.isCoroutine = false) (hgen : fd.scope.isGenerator = false) (hk : fd.scope.kind = .function)
    (h : ∀ A' env L h₁ tk, Room A' n → EnvIs env fd.scope L → Z b L (fun x => binds.reverse.lookup x) s.heap.get? h₁ →
      wpAny (model prog w) A' (execs body env) (fun fl s' => R (.ok (.ret (match fl with | .ret v => v | _ => .none))) s') (fun _ _ => False) { s with heap := h₁, toks := tk }) :
    codeAny (model prog w) A (.call (.ref f) ⟨pos, kw⟩) R s := by
  have hX := C.X.keeps hB.stays
  refine codeAny_call_def (fd := fd) r.room (hX _ _ ho) rfl (C.nolimit.keeps hB.stays) (codeRec_of hX hcd) hbody hbind (fun x hx => of_decide_eq_true (List.all_eq_true.mp hcell x hx)) (fun x hx => of_decide_eq_true (List.all_eq_true.mp hloc x hx)) ?_ hco hgen hk
  intro h₁ hns hk₁
  refine wpAny_mono (h _ (callEnv fd s.heap.objs.size f) s.heap.objs.size h₁ _ (r.deeper _) ⟨rfl, rfl, hg, hbu, hk⟩ ⟨hns, hk₁, ?_, hB.stays, hB.size⟩) (fun fl s' q => ?_) fun _ _ x => x.elim
  · cases e : s.heap.get? s.heap.objs.size with
    | none => rfl
    | some o => exact absurd (Heap.lt_size e) (Nat.lt_irrefl _)
  · cases fl <;> exact q

/-- an object is made: its dict at d, itself at d + 1 -/
theorem make_inst {n : Nat} {Cl fI : Addr} {rest : List Value} {Q : Value → Shared → Prop} (C : Cx K mg mb b) (hB : Bs b s.heap) (r : Room A (n + 1)) (hm : makesIn K Cl = true) (hi : findIn K (.ref Cl) "__init__" = some (some (.ref fI))) (hf : isFn K (.ref fI) = true)
    (h : ∀ A' x dx h', Room A' n → s.heap.get? x = none → s.heap.get? dx = none → x ≠ dx → New b x → New b dx → Bs b h' → Led (upd (upd s.heap.get? dx (dictOf [] 0)) x (instObj Cl dx)) h' →
      codeAny (model prog w) A' (.call (.ref fI) ⟨.ref x :: rest, []⟩) (InitBack x fun r s' => match r with | .ok (.ret v) => Q v s' | _ => False) { s with heap := h' }) :
    wpAny (model prog w) A (call (.ref Cl) rest []) Q E s := by
  refine wpAny_call ?_
  have X := C.X.keeps hB.stays
  obtain ⟨hh, g, d, t, os⟩ := s
  refine codeAny_mono (R := fun r s' => match r with | .ok (.ret v) => Q v s' | _ => False) ?_ (fun r s' q => ?_)
  · refine make_core (makes_of X hm) (looks_findIn X hi) (fun self => bind_fn X self (beq_iff_eq.mp hf)) (.inl rfl) (h _ (hh.objs.size + 1) hh.objs.size ((hh.push emptyDict).push (instObj Cl hh.objs.size)) ?_ ?_ ?_ ?_ ?_ ?_ ?_ ?_)
    · exact ⟨r.handled, by have := r.depth; show A.depth + 1 + n ≤ 900; omega, by have := r.units; show A.units + 1 + 10 * n ≤ 9000; omega⟩
    · cases e : hh.get? (hh.objs.size + 1) with
      | none => rfl
      | some o => exact absurd (Heap.lt_size e) (Nat.not_lt.mpr (Nat.le_succ _))
    · cases e : hh.get? hh.objs.size with
      | none => rfl
      | some o => exact absurd (Heap.lt_size e) (Nat.lt_irrefl _)
    · exact Nat.succ_ne_self _
    · exact Nat.le_succ_of_le hB.size
    · exact hB.size
    · exact ⟨fun c o e => Heap.get?_push_of_some _ (Heap.get?_push_of_some _ (hB.stays c o e)), by rw [Heap.size_push, Heap.size_push]; exact Nat.le_succ_of_le (Nat.le_succ_of_le hB.size)⟩
    · intro c o e
      by_cases q1 : c = hh.objs.size + 1
      · subst q1; rw [upd_self] at e; cases e
        have := Heap.get?_push_size (hh.push emptyDict) (o := instObj Cl hh.objs.size) rfl
        rwa [Heap.size_push] at this
      · rw [upd_ne q1] at e
        by_cases q2 : c = hh.objs.size
        · subst q2; rw [upd_self] at e; cases e
          exact Heap.get?_push_of_some _ (Heap.get?_push_size _ rfl)
        · rw [upd_ne q2] at e
          exact Heap.get?_push_of_some _ (Heap.get?_push_of_some _ e)
  · cases r with
    | error e => exact q.elim
    | ok fl => cases fl <;> first | exact q | exact q.elim
end
end Mine

namespace Mine

theorem tcall_dict0 : checkTypeCall "dict" ⟨[], []⟩ = pure () := by kernel_rfl
theorem ncall_dict0 : checkBuiltinCall "dict.__new__" ⟨[.type "dict"], []⟩ = pure () := by kernel_rfl
theorem args_dict_init1 (a : Value) : argsOk "dict.__init__" ⟨[a], []⟩ := by unfold argsOk; kernel_rfl

section
variable {prog : Program} {w : World} {A : Around} {E : Value → Shared → Prop} {s : Shared} {K : Frag} {mg mb : Str → Option Value} {b : Heap} {L : Addr} {m : Str → Option Value} {ld : Ld} {env : Env} {sc : Scope}

theorem code_dict_new0 {Q₁ : Value → Shared → Prop} (h : Q₁ (.ref s.heap.objs.size) { s with heap := s.heap.push { cls := .type "dict", data := .dict #[] } }) :
    codeAny (model prog w) A (.call (.builtin "dict.__new__") ⟨[.type "dict"], []⟩) (wants Q₁ E) s := by
  refine codeAny_call_builtin F.kt_plain_dict_new F.kt_entry_dict_new (wpAny_of_eq ncall_dict0 ?_)
  have hsub := F.kt_sub_dict
  have hmro := F.kt_mro_dict
  obtain ⟨hp, g, d, tk, os⟩ := s
  unfold Builtin.«dict.__new__»
  wp_walk
  exact h
theorem call_dict0 {Q : Value → Shared → Prop} (h : Q (.ref s.heap.objs.size) { s with heap := s.heap.push (dictOf [] 0) }) : wpAny (model prog w) A (call (.type "dict") []) Q E s := by
  refine callType_codes (Q₁ := fun obj s₁ => obj = .ref s.heap.objs.size ∧ s₁ = { s with heap := s.heap.push { cls := .type "dict", data := .dict #[] } }) F.kt_called_dict tcall_dict0 F.entry_dict_init (code_dict_new0 ⟨rfl, rfl⟩) ?_
  rintro obj s₁ ⟨rfl, rfl⟩
  have hnew : (s.heap.push { cls := .type "dict", data := .dict #[] }).DictOf (intKind prog w) s.heap.objs.size [] := Heap.DictOf.new s.heap
  refine ⟨hnew.typeIs, args_dict_init1 _, ?_⟩
  unfold Builtin.«dict.__init__»
  refine wpAny_bind ?_
  unfold Builtin.Dict.selfAndRest
  refine wpAny_bind (wpAny_notOrdered_dict hnew.typeIs ?_)
  show wpAny _ _ (pure (s.heap.objs.size, ([] : List Value))) _ _ _
  refine wpAny_pure ?_
  unfold Builtin.Dict.updateCommon
  refine wpAny_bind (m := Builtin.Dict.addKeywords s.heap.objs.size []) (wpAny_pure ?_)
  exact wpAny_pure ⟨rfl, h⟩

/-- dict.fromkeys, bound to dict -/
def fkObj : Obj := { cls := .type "builtin_function_or_method", data := .fields #[.builtin "dict.fromkeys", .type "dict"] }
theorem type_fk : typeOf (.builtin "dict.fromkeys") = pure (.type "classmethod_descriptor") := by show builtinType _ = _; rw [builtinType_eq_fast]; kernel_rfl
theorem entry_fk : entryFor table "dict.fromkeys" = some Builtin.«dict.fromkeys» := entryFor_of_tree (by kernel_rfl)
theorem entry_fkl : entryFor table "dict.fromkeys.loop" = some Builtin.«dict.fromkeys.loop» := entryFor_of_tree (by kernel_rfl)
theorem quiet_fk {as : Args} : (Code.builtin "dict.fromkeys" as).quiet = true := Code.quiet_builtin _ (by decide +kernel)
theorem quiet_fkl {as : Args} : (Code.builtin "dict.fromkeys.loop" as).quiet = true := Code.quiet_builtin _ (by decide +kernel)
theorem type_dict : isType (.type "dict") = pure true := by first | rfl | kernel_rfl | (unfold isType; rw [isSubtype_type]; kernel_rfl)
theorem owner_fk : (kfb_private% "ownerAndName") "dict.fromkeys" = ("dict", "fromkeys") := by first | decide +kernel | kernel_rfl
theorem check_fk {l : Addr} : checkBoundCall "dict.fromkeys" ⟨[.type "dict", .ref l], []⟩ = pure () := by first | kernel_rfl | rfl

theorem run_fkget {M : Model} {P : Fin → Shared → Prop} (h : P (.done (.ret (.ref s.heap.objs.size))) { s with heap := s.heap.push fkObj }) :
    wpAny M A (Builtin.«classmethod_descriptor.__get__» ⟨[.builtin "dict.fromkeys", .none, .type "dict"], []⟩) P E s := by
  unfold Builtin.«classmethod_descriptor.__get__»
  refine wpAny_bind (wpAny_of_eq (a := (.builtin "dict.fromkeys", none, some (.type "dict"))) (by first | rfl | kernel_rfl) ?_)
  simp only [owner_fk]
  refine wpAny_bind (wpAny_of_eq (a := .type "dict") rfl ?_)
  refine wpAny_bind (wpAny_of_eq (a := true) type_dict ?_)
  refine KFB.if_not rfl ?_
  refine wpAny_bind (wpAny_of_eq (a := true) F.kt_sub_dict ?_)
  refine KFB.if_not rfl ?_
  exact wpAny_bind (wpAny_newObj_type (wpAny_pure h))

theorem gm_fromkeys {pl : Sem Bool} {Q : Value × List Value → Shared → Prop} (C : Cx K mg mb b) (z : Z b L m ld s.heap)
    (e : findCls K (.type "dict") (.type "type") (PySem.Str.ofString "fromkeys") = some (.get (.builtin "classmethod_descriptor.__get__") (.builtin "dict.fromkeys") .none (.type "dict")))
    (h : Q (.ref s.heap.objs.size, []) { s with heap := s.heap.push fkObj, toks := s.toks + 1 }) :
    wpAny (model prog w) A (getMethod (.type "dict") (PySem.Str.ofString "fromkeys") pl) Q E s := by
  have X := C.X.keeps z.stays
  have hstub : opaqueClassAbove (.type "dict") = pure none := by unfold opaqueClassAbove; dsimp only; rw [show Manifest.isStub "dict" = false by decide +kernel]; rfl
  have ht : typeOf (.type "dict") = pure (.type "type") := by first | rfl | kernel_rfl
  have L0 : Looks (model prog w) s.heap (typeOf (.type "dict")) (.type "type") := Looks.of_pure ht
  have hg : findIn K (.type "type") "__getattribute__" = some (some (.builtin "type.__getattribute__")) := type_tga
  unfold getMethod specialOf
  refine wpAny_bind (wpAny_bind (L0.here ((looks_findIn X hg).here ?_)))
  dsimp only
  rw [if_pos canon_tga]
  refine wpAny_bind (wpAny_mono (Q := fun v => Q (v, [])) (E := E) ?_ (fun _ _ z => wpAny_pure z) fun _ _ z => z)
  have LO : Looks (model prog w) s.heap (opaqueClassAbove (.type "dict")) none := Looks.of_pure hstub
  refine cls_open X LO L0 hg (looks_hook X (r := none) (by rfl)) (by show subIn K _ _ = _; rfl) e ?_
  show wpAny _ _ (holding [.builtin "dict.fromkeys"] (call (.builtin "classmethod_descriptor.__get__") [.builtin "dict.fromkeys", .none, .type "dict"]) >>= fun v => ret v) _ _ _
  exact wpAny_bind (wpAny_holding (wpAny_call_entry KFB.slot_get type_fk KFB.entry_get (run_fkget ⟨_, rfl, wpAny_pure (wpAny_pure h)⟩) (KFB.args_get _ _ _)))

theorem cw_bound {pos : Pos} {u : Addr} {ub : Obj} {ubv : Array Value} {e : Expr} {rest : List Expr} {Q : Value → Shared → Prop} (hub : ub.cls = .type "builtin_function_or_method") (hud : ub.data = .fields ubv)
    (h : wpAny (model prog w) A (spliced (backTo pos (starEach (e :: rest) env))) (fun vs s₁ => s₁.heap.get? u = some ub ∧ wpAny (model prog w) A (call (.ref u) vs) Q E s₁) E s)
    (he : starEach (e :: rest) env = (false, eval e env) :: starEach rest env := by rfl) (hplain : (backTo pos (starEach rest env)).any (·.1) = false := by rfl) :
    wpAny (model prog w) A (callWith pos (.ref u) [] (backTo pos (starEach (e :: rest) env)) []) Q E s := by
  rw [he] at h ⊢
  have hpl : ((backTo pos ((false, eval e env) :: starEach rest env)).any (·.1)) = false := by show (false || (backTo pos (starEach rest env)).any (·.1)) = false; rw [hplain]; rfl
  unfold callWith
  refine wpAny_bind (wpAny_holding (wpAny_mono (evalArgs_plain (f := .ref u) (Q := fun a s₁ => s₁.heap.get? u = some ub ∧ wpAny (model prog w) A (call (.ref u) a.pos a.kw) Q E s₁) h) (fun x s₁ h₁ => wpAny_bind (wpAny_standAt ?_)) fun _ _ x => x))
  obtain ⟨ho, hcall⟩ := h₁
  simp only [hpl, List.any_nil, Bool.or_false]
  refine wpAny_bind (m := keeperOf (.ref u)) ?_
  unfold keeperOf
  refine wpAny_bind (wpAny_load ho ?_)
  simp only [hub, show (Value.type "builtin_function_or_method" != Value.type "method") = true by decide, show (Value.type "builtin_function_or_method" == Value.type "builtin_function_or_method" || Value.type "builtin_function_or_method" == Value.type "method-wrapper") = true by decide, if_true, hud]
  refine wpAny_pure ?_
  exact wpAny_bind (wpAny_mono hcall (fun r s₂ hr => wpAny_bind (wpAny_holding (wpAny_point (wpAny_pure hr)))) fun _ _ x => x)

theorem den_builtin {id : String} {args : Args} {bi : Builtin} (hb : entryFor table id = some bi) : (model prog w).den (.builtin id args) = bi args := by
  show (match entryFor table id with | some b => b args | none => unsupported ((withoutEnding? id "#data").getD id)) = _
  rw [hb]
theorem code_fkloop {l it d : Addr} {vs : List Value} {ns : List Int} {Q : Value → Shared → Prop} {h₀ : Heap} (hh : A.handled = none)
    (hit : s.heap.IsListIter it l 0) (hl : s.heap.IsList l vs.toArray) (hd : s.heap.DictOf (intKind prog w) d []) (hi : IntsAre vs ns) (h1 : it ≠ l) (h2 : it ≠ d) (h3 : l ≠ d) (hns : ns.length ≤ 1000)
    (hk0 : ∀ c o, c ≠ it → c ≠ d → h₀.get? c = some o → s.heap.get? c = some o)
    (h : ∀ h' tk kvs, h'.DictOf (intKind prog w) d kvs → kvs.map (·.1) = ns.foldl (fun acc k => if k ∈ acc then acc else acc ++ [k]) [] → (∀ c o, c ≠ it → c ≠ d → h₀.get? c = some o → h'.get? c = some o) → Q (.ref d) { s with heap := h', toks := tk }) :
    codeAny (model prog w) A (.builtin "dict.fromkeys.loop" ⟨[.ref d, .ref it, .none], []⟩) (wants Q E) s := by
  refine codeAny_loop' quiet_fkl (fun n s' => ∃ i h' tk kvs, s' = { s with heap := h', toks := tk } ∧ i ≤ ns.length ∧ n = ns.length - i ∧ h'.IsListIter it l i ∧ h'.IsList l vs.toArray ∧ h'.DictOf (intKind prog w) d kvs ∧
    kvs.map (·.1) = (ns.take i).foldl (fun acc k => if k ∈ acc then acc else acc ++ [k]) [] ∧ kvs.length ≤ i ∧ ∀ c o, c ≠ it → c ≠ d → h₀.get? c = some o → h'.get? c = some o) ?_ ns.length
    ⟨0, s.heap, s.toks, [], rfl, Nat.zero_le _, rfl, hit, hl, hd, rfl, Nat.le_refl _, hk0⟩
  rintro n s' ⟨i, h', tk, kvs, rfl, hi1, rfl, hit', hl', hd', hkv, hkl, hk'⟩
  rw [den_builtin entry_fkl]
  have hA : (A.under (.builtin "dict.fromkeys.loop" ⟨[.ref d, .ref it, .none], []⟩)).handled = none := hh
  have hvl := hi.length
  unfold Builtin.«dict.fromkeys.loop»
  by_cases hlt : i < ns.length
  · obtain ⟨t, hx⟩ := hi.get i ns[i] (by simp [hlt])
    refine wpAny_bind (wpAny_pyNext_list_item (s := { s with heap := h', toks := tk }) hit' hl' (x := .int ns[i] t) (by simpa using hx) fun h₁ hit₁ hs₁ => ?_)
    have hd₁ := hd'.sameBut hs₁ h2.symm
    have hl₁ : h₁.IsList l vs.toArray := hl'.extBut hs₁.extBut h1.symm
    refine wpAny_bind (wpAny_typeOf (s := { s with heap := h₁, toks := tk }) hd₁.typeIs ?_)
    rw [if_pos (by decide)]
    refine wpAny_bind (m := Builtin.Dict.addrOf (.ref d)) (wpAny_pure ?_)
    refine wpAny_bind (wpAny_holding (wpAny_dictSet_pairs (s := { s with heap := h₁, toks := tk }) (intKind_is prog w ns[i] t) hd₁ (fun h₂ hd₂ hs₂ => ?_) (Nat.le_trans hkl (Nat.le_trans (by omega : i ≤ 1000) (by decide)))))
    refine wpAny_pure (.inl ⟨rfl, ns.length - (i + 1), by omega, i + 1, h₂, tk + 1, _, rfl, hlt, rfl, ?_, ?_, hd₂, ?_, ?_, ?_⟩)
    · exact hit₁.extBut hs₂.extBut h2
    · exact hl₁.extBut hs₂.extBut h3
    · rw [List.take_add_one, List.getElem?_eq_getElem hlt, Option.toList_some, List.foldl_append, List.foldl_cons, List.foldl_nil, ← hkv]
      have hmem : (kvs.any fun kv => decide (kv.1 = ns[i])) = decide (ns[i] ∈ kvs.map (·.1)) := by
        rw [Bool.eq_iff_iff, List.any_eq_true, decide_eq_true_eq, List.mem_map]
        constructor
        · rintro ⟨p, hp, q⟩; exact ⟨p, hp, of_decide_eq_true q⟩
        · rintro ⟨p, hp, q⟩; exact ⟨p, hp, decide_eq_true q⟩
      unfold stored
      rw [hmem]
      by_cases q : ns[i] ∈ kvs.map (·.1)
      · rw [if_pos (decide_eq_true q), if_pos q]; exact keys_map_store kvs ns[i] .none
      · rw [if_neg (by simpa using q), if_neg q, List.map_append]; rfl
    · exact Nat.le_trans (stored_length_le _ _ _) (Nat.succ_le_succ hkl)
    · intro c o q1 q2 q3
      exact (hs₂.2 c q2).trans ((hs₁.2 c q1).trans (hk' c o q1 q2 q3))
  · have hin : i = ns.length := by omega
    subst hin
    refine wpAny_bind (wpAny_pyNext_list_end (s := { s with heap := h', toks := tk }) hA hit' hl' (by rw [List.getElem?_toArray, List.getElem?_eq_none (by omega)]) fun h₁ he₁ => ?_)
    rw [List.take_length] at hkv
    exact wpAny_pure (h h₁ tk kvs (hd'.extBut he₁ h2.symm) hkv fun c o q1 q2 q3 => he₁ c o q1 (hk' c o q1 q2 q3))

end
end Mine

namespace Mine

def dedup (ns : List Int) : List Int := ns.foldl (fun acc k => if k ∈ acc then acc else acc ++ [k]) []

section
variable {prog : Program} {w : World} {A : Around} {E : Value → Shared → Prop} {s : Shared} {K : Frag} {mg mb : Str → Option Value} {b : Heap} {L : Addr} {m : Str → Option Value} {ld : Ld} {env : Env} {sc : Scope}

theorem call_fromkeys {x l : Addr} {vs : List Value} {ns : List Int} {n : Nat} {Q : Value → Shared → Prop} (hh : A.handled = none) (hx : s.heap.get? x = some fkObj) (hl : s.heap.get? l = some (listOf vs.toArray n)) (hi : IntsAre vs ns) (hns : ns.length ≤ 1000)
    (h : ∀ d h' tk kvs, s.heap.get? d = none → (∀ c o, s.heap.get? c = some o → h'.get? c = some o) → h'.DictOf (intKind prog w) d kvs → kvs.map (·.1) = dedup ns → d = s.heap.objs.size → Q (.ref d) { s with heap := h', toks := tk }) :
    wpAny (model prog w) A (call (.ref x) [.ref l]) Q E s := by
  refine wpAny_call (codeAny_of_tree ?_)
  show wpAny _ A.in1 (callAny (.ref x) ⟨[.ref l], []⟩) _ _ s
  simp only [callAny]
  refine wpAny_bind (wpAny_load hx ?_)
  simp only [fkObj, show (Value.type "builtin_function_or_method" == Value.type "method" || Value.type "builtin_function_or_method" == Value.type "builtin_function_or_method" || Value.type "builtin_function_or_method" == Value.type "method-wrapper") = true by decide, if_true]
  refine KFB.if_so (by decide) ?_
  refine wpAny_bind (wpAny_of_eq (a := ()) check_fk ?_)
  refine wpAny_bind (wpAny_pure (wpAny_pure ?_))
  refine ⟨quiet_fk, codeAny_builtin entry_fk ?_⟩
  unfold Builtin.«dict.fromkeys»
  refine wpAny_bind (wpAny_of_eq (a := true) type_dict ?_)
  refine KFB.if_not rfl ?_
  refine wpAny_bind (wpAny_of_eq (a := true) F.kt_sub_dict ?_)
  refine KFB.if_not rfl ?_
  refine KFB.if_not rfl ?_
  refine wpAny_bind (wpAny_rule ?_)
  refine wpAny_bind (wpAny_pure ?_)
  refine wpAny_bind (call_dict0 ?_)
  refine wpAny_holding ?_
  have hne : l ≠ s.heap.objs.size := ne_of_lt1 (Heap.lt_size hl)
  have hl₁ : (s.heap.push (dictOf [] 0)).get? l = some (listOf vs.toArray n) := Heap.get?_push_of_some _ hl
  have hL₁ : (s.heap.push (dictOf [] 0)).IsList l vs.toArray := ⟨_, hl₁, rfl, n, rfl⟩
  have hd₁ : (s.heap.push (dictOf [] 0)).DictOf (intKind prog w) s.heap.objs.size [] := Heap.DictOf.new s.heap
  refine wpAny_bind (wpAny_typeOf (s := { s with heap := s.heap.push (dictOf [] 0) }) hL₁.typeIs ?_)
  refine wpAny_bind (wpAny_typeOf (s := { s with heap := s.heap.push (dictOf [] 0) }) hd₁.typeIs ?_)
  rw [if_neg (by decide)]
  refine wpAny_bind (wpAny_typeOf (s := { s with heap := s.heap.push (dictOf [] 0) }) hd₁.typeIs ?_)
  rw [if_neg (by decide)]
  refine wpAny_bind (wpAny_pyIter_list (s := { s with heap := s.heap.push (dictOf [] 0) }) hL₁ ?_)
  refine wpAny_pure ⟨quiet_fkl, ?_⟩
  have hsz : (s.heap.push (dictOf [] 0)).objs.size = s.heap.objs.size + 1 := Heap.size_push ..
  dsimp only
  rw [hsz]
  have hit : ((s.heap.push (dictOf [] 0)).push { cls := .type "list_iterator", data := .fields #[.ref l, .int 0 0] }).get? (s.heap.objs.size + 1) = some { cls := .type "list_iterator", data := .fields #[.ref l, .int 0 0] } := by
    have := Heap.get?_push_size (s.heap.push (dictOf [] 0)) (o := { cls := .type "list_iterator", data := .fields #[.ref l, .int 0 0] }) rfl
    rwa [hsz] at this
  refine codeAny_mono (code_fkloop (Q := Q) (E := E) (h₀ := s.heap) (s := { s with heap := (s.heap.push (dictOf [] 0)).push { cls := .type "list_iterator", data := .fields #[.ref l, .int 0 0] } }) hh ⟨_, hit, rfl, rfl⟩ ⟨_, Heap.get?_push_of_some _ hl₁, rfl, n, rfl⟩ (hd₁.push _) hi (ne_of_lt2 (Heap.lt_size hl)).symm (Nat.succ_ne_self _) hne hns (fun c o _ _ e => Heap.get?_push_of_some _ (Heap.get?_push_of_some _ e)) fun h' tk kvs hd hkv hk => ?_) fun r s' q => ?_
  · have hnone : s.heap.get? s.heap.objs.size = none := by
      cases e : s.heap.get? s.heap.objs.size with
      | none => rfl
      | some o => exact absurd (Heap.lt_size e) (Nat.lt_irrefl _)
    exact h _ h' tk kvs hnone (fun c o e => hk c o (ne_of_lt2 (Heap.lt_size e)) (ne_of_lt1 (Heap.lt_size e)) e) hd hkv rfl
  · exact q

theorem dm_keys {d : Addr} {o : Obj} {kvs : List (Int × Value)} {pl : Sem Bool} {Q : Value × List Value → Shared → Prop} (z : Z b L m ld s.heap) (hd : ld d = some o) (hk : o.IsDictOf (intKind prog w) kvs) (h : Q (.builtin "dict.keys", [.ref d]) s) :
    wpAny (model prog w) A (getMethod (.ref d) "keys" pl) Q E s :=
  getMethod_builtin (dictAt z hd hk).typeIs PySem.F.plainAttrs_dict PySem.F.slot_dict_keys PySem.F.type_dict_keys (dictAt z hd hk).mapOf.noDict h

abbrev keysObj (d : Addr) : Obj := { cls := .type "dict_keys", data := .fields #[.ref d] }
theorem d_keys {d : Addr} {o : Obj} {kvs : List (Int × Value)} {Q : Value → Shared → Prop} (C : Cx K mg mb b) (z : Z b L m ld s.heap) (hd : ld d = some o) (hn : New b d) (hk : o.IsDictOf (intKind prog w) kvs)
    (h : Q (.ref s.heap.objs.size) { s with heap := s.heap.push (keysObj d) }) : wpAny (model prog w) A (call (.builtin "dict.keys") [.ref d]) Q E s :=
  call_meetsIn PySem.F.slot_dict_keys (dictAt z hd hk).typeIs PySem.F.entry_dict_keys (PySem.F.args_dict_keys_1 _) (kdl_meets_keys (intKind prog w) d (C.notSys hn)) ⟨⟨_, dictAt z hd hk⟩, h⟩

theorem call_list_keys {v d : Addr} {o : Obj} {kvs : List (Int × Value)} {mm : Nat} {Q : Value → Shared → Prop} (r : Room A mm) (z : Z b L m ld s.heap) (hv : ld v = some (keysObj d)) (hd : ld d = some o) (hk : o.IsDictOf (intKind prog w) kvs) (hn : kvs.length ≤ 1000)
    (h : ∀ a h' tk vs n, ld a = none → New b a → Z b L m (upd ld a (listOf vs.toArray n)) h' → IntsAre vs (kvs.map (·.1)) → Q (.ref a) { s with heap := h', toks := tk }) :
    wpAny (model prog w) A (call (.type "list") [.ref v]) Q E s := by
  obtain ⟨ep, hat⟩ := (dictAt (prog := prog) (w := w) z hd hk).dictAt
  refine kdl_call (kdl_keys (knd := intKind prog w) (kvs := kvs) (ep := ep)) r.handled ⟨⟨_, z.led _ _ hv, rfl, rfl⟩, hat⟩ (Nat.le_trans hn (by decide)) fun h' tk acc c hkp hD hacc => ?_
  have hp := z.push (listOf acc c)
  refine h _ h' tk acc.toList c z.size_none z.bs.size ?_ ?_
  · rw [Array.toArray_toList]
    exact {
      ns := z.ns.keeps hkp
      led := fun x o e => by
        by_cases q : x = s.heap.objs.size
        · subst q; rw [upd_self] at e; cases e; exact hD
        · rw [upd_ne q] at e; exact hkp _ _ (z.led _ _ e)
      fr := hp.fr
      base := hp.base
      above := z.above }
  · have hlen : acc.toList.length = (kvs.map (·.1)).length := by rw [Array.length_toList, hacc.1, List.length_map]
    have key : ∀ (l : List Value) (ns : List Int), l.length = ns.length → (∀ (j : Nat) (u : Value), l[j]? = some u → ∃ k t, ns[j]? = some k ∧ u = Value.int k t) → IntsAre l ns := by
      intro l
      induction l with
      | nil => intro ns hl _; cases ns with | nil => exact .nil | cons _ _ => simp at hl
      | cons u l ih =>
        intro ns hl hj
        cases ns with
        | nil => simp at hl
        | cons k ns =>
          obtain ⟨k', t, h1, rfl⟩ := hj 0 u rfl
          cases h1
          exact .cons _ _ (ih ns (by simpa using hl) fun j u hu => hj (j + 1) u hu)
    refine key _ _ hlen fun j u hu => ?_
    obtain ⟨k, x, hx, hku⟩ := hacc.2 j u (by rw [← Array.getElem?_toList]; exact hu)
    obtain ⟨t, rfl⟩ := Value.isInt_shape hku
    exact ⟨k, t, by rw [List.getElem?_map, hx]; rfl, rfl⟩
end
end Mine

namespace Mine

/-- the attributes of a Clause -/
def clEs (h1 h2 h3 : Int) (t1 t2 t3 : Tok) (v1 v2 : Value) (l : Addr) : List DictEntry :=
  [⟨h1, .str "learned" t1, v1⟩, ⟨h2, .str "rule" t2, v2⟩, ⟨h3, .str "lits" t3, .ref l⟩]

/-- a clause at c, its dict at d, its wishes at l -/
structure Cl (ld : Ld) (c d l : Addr) (v1 v2 : Value) (lits : List Int) : Prop where
  inst : ld c = some (instObj 96 d)
  dict : ∃ h1 h2 h3 t1 t2 t3 n, ld d = some (dictOf (clEs h1 h2 h3 t1 t2 t3 v1 v2 l) n)
  list : ∃ vs n, ld l = some (listOf vs.toArray n) ∧ IntsAre vs lits

/-- the written body and scope of a def of the text -/
def fnBody (K : Frag) (f : Addr) : List Stmt := match K.lookup f with
  | some ⟨_, _, .func fd, _⟩ => (match fd.body with | .stmts b => b | _ => [])
  | _ => []
def fnScope (K : Frag) (f : Addr) : Scope := match K.lookup f with
  | some ⟨_, _, .func fd, _⟩ => fd.scope
  | _ => default
noncomputable abbrev clBody (w : World) : List Stmt := fnBody (KK w) 50
noncomputable abbrev clScope (w : World) : Scope := fnScope (KK w) 50

section
variable {w : World} {A : Around} {E : Value → Shared → Prop} {s : Shared} {mg mb : Str → Option Value} {b : Heap}

set_option maxHeartbeats 4000000 in
theorem clinit_spec {c cd lw : Addr} {v1 v2 : Value} {pos : List Value} {vs : List Value} {ns : List Int} {n : Nat} {R : Result → Shared → Prop}
    (C : Cx (KK w) mg mb b) (hB : Bs b s.heap) (r : Room A 1) (hc : s.heap.get? c = some (instObj 96 cd)) (hcd : s.heap.get? cd = some (dictOf [] 0)) (hncd : New b cd)
    (hl : s.heap.get? lw = some (listOf vs.toArray n)) (hi : IntsAre vs ns) (hns : ns.length ≤ 1000)
    (hpos : pos = [.ref c, .ref lw] ∧ v1 = .bool false ∧ v2 = .none ∨ pos = [.ref c, .ref lw, v1, v2])
    (hv1 : handedIn v1 = true) (hv2 : handedIn v2 = true)
    (h : ∀ h' tk ld' l, Led ld' h' → (∀ x o, x ≠ cd → s.heap.get? x = some o → ld' x = some o) → s.heap.get? l = none → New b l → Cl ld' c cd l v1 v2 (dedup ns) → R (.ok (.ret .none)) { s with heap := h', toks := tk }) :
    codeAny (model PP w) A (.call (.ref 50) ⟨pos, []⟩) R s := by
  have hX := C.X.keeps hB.stays
  have hcl : c ≠ cd := ne_of_cls hc hcd (by simp)
  have hlcd : lw ≠ cd := ne_of_cls hl hcd (by simp)
  have go : ∀ (A' : Around) (env : Env) (L : Addr) (h₁ : Heap) (tk : Nat) (m : Loc) (sc : Scope) (body : List Stmt), body = clBody w → sc = clScope w → Room A' 0 → EnvIs env sc L → Z b L m s.heap.get? h₁ → m "self" = some (.ref c) → m "lits" = some (.ref lw) → m "learned" = some v1 → m "rule" = some v2 →
      wpAny (model PP w) A' (execs body env) (fun fl s' => R (.ok (.ret (match fl with | .ret v => v | _ => .none))) s') (fun _ _ => False) { s with heap := h₁, toks := tk } := by
    rintro A' env L h₁ tk m sc body rfl rfl r' e z hm1 hm2 hm3 hm4
    -- self.learned = learned
    refine wpAny_execs_cons (plainObj_wpAny_Assign_Attribute (ev_loc e z hm3 (ev_loc e z hm1 (sa_own (es' := fun t1 => [⟨PyData.keyHash w.params "learned", .str "learned" t1, v1⟩]) (n' := 1) C z hc hcd hncd rfl rfl rfl rfl rfl (fun _ => rfl) (fun _ => by show 1 ≤ 1000; decide) fun h₂ t1 tk₂ z => ?_))))
    have hc1 := (upd_ne (ld := s.heap.get?) (o := dictOf [⟨PyData.keyHash w.params "learned", .str "learned" t1, v1⟩] 1) hcl).trans hc
    refine wpAny_execs_cons (plainObj_wpAny_Assign_Attribute (ev_loc e z hm4 (ev_loc e z hm1 (sa_own (es' := fun t2 => [⟨PyData.keyHash w.params "learned", .str "learned" t1, v1⟩, ⟨PyData.keyHash w.params "rule", .str "rule" t2, v2⟩]) (n' := 2) C z hc1 upd_self hncd rfl rfl rfl rfl rfl (fun _ => rfl) (fun _ => by show 2 ≤ 1000; decide) fun h₃ t2 tk₃ z => ?_))))
    dsimp only
    -- self.lits = list(dict.fromkeys(lits).keys())
    have hrest : ∀ x o, x ≠ cd → s.heap.get? x = some o → upd (upd s.heap.get? cd (dictOf [⟨PyData.keyHash w.params "learned", .str "learned" t1, v1⟩] 1)) cd
        (dictOf [⟨PyData.keyHash w.params "learned", .str "learned" t1, v1⟩, ⟨PyData.keyHash w.params "rule", .str "rule" t2, v2⟩] 2) x = some o := fun x o q e => by rw [upd_ne q, upd_ne q]; exact e
    have hcd2 : upd (upd s.heap.get? cd (dictOf [⟨PyData.keyHash w.params "learned", .str "learned" t1, v1⟩] 1)) cd
        (dictOf [⟨PyData.keyHash w.params "learned", .str "learned" t1, v1⟩, ⟨PyData.keyHash w.params "rule", .str "rule" t2, v2⟩] 2) cd = _ := upd_self
    have hnone : ∀ x, upd (upd s.heap.get? cd (dictOf [⟨PyData.keyHash w.params "learned", .str "learned" t1, v1⟩] 1)) cd
        (dictOf [⟨PyData.keyHash w.params "learned", .str "learned" t1, v1⟩, ⟨PyData.keyHash w.params "rule", .str "rule" t2, v2⟩] 2) x = none → s.heap.get? x = none := fun x q => by
      cases q' : s.heap.get? x with
      | none => rfl
      | some o =>
        by_cases hx : x = cd
        · subst hx; rw [hcd2] at q; cases q
        · rw [hrest x o hx q'] at q; cases q
    generalize upd (upd s.heap.get? cd (dictOf [⟨PyData.keyHash w.params "learned", .str "learned" t1, v1⟩] 1)) cd
        (dictOf [⟨PyData.keyHash w.params "learned", .str "learned" t1, v1⟩, ⟨PyData.keyHash w.params "rule", .str "rule" t2, v2⟩] 2) = ld at z hrest hcd2 hnone
    refine wpAny_execs_cons (plainObj_wpAny_Assign_Attribute (Call_ (ev_bi e C z rfl PyProof.Rows.boot_list (Pv.callWith_type1 (args_cons ?_)))))
    refine MethodCall_ (MethodCall_ (ev_bi e C z rfl PyProof.Rows.boot_dict (gm_fromkeys C z rfl ?_)))
    dsimp only
    have z4 := z.push fkObj
    have hfk := z.size_none
    generalize hfa : h₃.objs.size = fa at z4 hfk ⊢
    have hfk' : ∀ x o, ld x = some o → upd ld fa fkObj x = some o := fun x o q => upd_tmp hfk q
    refine cw_bound rfl rfl (args_cons (ev_loc e z4 hm2 (args_nil ⟨z4.led _ _ upd_self, ?_⟩)))
    refine call_fromkeys r'.handled (z4.led _ _ upd_self) (z4.led _ _ (hfk' _ _ (hrest _ _ hlcd hl))) hi hns fun d h₅ tk₅ kvs hd0 hk5 hd5 hkv hds => ?_
    obtain ⟨od, hod, hkd⟩ := Heap.dictOf_iff.mp hd5
    have z5 : Z b L m (upd (upd ld fa fkObj) d od) h₅ := by
      have := z4.ext hk5
      refine { ns := this.ns, led := fun x o q => ?_, fr := ?_, base := ?_, above := this.above }
      · by_cases hx : x = d
        · subst hx; rw [upd_self] at q; cases q; exact hod
        · rw [upd_ne hx] at q; exact this.led _ _ q
      · rw [upd_ne (fun q => by rw [← q] at hd0; obtain ⟨o, _, _, ho, _⟩ := z4.ns; exact absurd (ho.symm.trans hd0) (by simp))]; exact this.fr
      · intro x o q
        rw [upd_ne (fun q' => by rw [← q'] at hd0; exact absurd ((z4.stays _ _ q).symm.trans hd0) (by simp))]; exact this.base _ _ q
    have hnd : New b d := by rw [hds]; exact z4.bs.size
    have hd5' : upd ld fa fkObj d = none := by
      cases q : upd ld fa fkObj d with
      | none => rfl
      | some o => exact absurd ((z4.led _ _ q).symm.trans hd0) (by simp)
    refine dm_keys z5 upd_self hkd (callWith_method0 (d_keys C z5 upd_self hnd hkd (args_nil ?_)))
    have z6 := z5.push (keysObj d)
    have hsz := z5.size_none
    have hkl : kvs.length ≤ 1000 := by
      have : (kvs.map (·.1)).length = (dedup ns).length := by rw [hkv]
      rw [List.length_map] at this
      have h2 : ∀ (l acc : List Int), (l.foldl (fun acc k => if k ∈ acc then acc else acc ++ [k]) acc).length ≤ acc.length + l.length := by
        intro l
        induction l with
        | nil => intro acc; simp
        | cons k l ih =>
          intro acc
          rw [List.foldl_cons]
          refine Nat.le_trans (ih _) ?_
          split
          · simp only [List.length_cons]; omega
          · simp only [List.length_append, List.length_cons, List.length_nil]; omega
      have h3 := h2 ns []
      simp only [List.length_nil, Nat.zero_add] at h3
      have h4 : (dedup ns).length ≤ ns.length := h3
      omega
    refine call_list_keys r' z6 upd_self (upd_tmp hsz upd_self) hkd hkl fun l h₇ tk₇ vs' n' hl0 hnl z7 hi7 => ?_
    rw [hkv] at hi7
    have hup : ∀ x o, ld x = some o → upd (upd (upd (upd ld fa fkObj) d od) h₅.objs.size (keysObj d)) l (listOf vs'.toArray n') x = some o := fun x o q =>
      upd_tmp hl0 (upd_tmp hsz (upd_tmp hd5' (hfk' _ _ q)))
    refine ev_loc e z7 hm1 (sa_own C z7 (hup _ _ (hrest _ _ hcl hc)) (hup _ _ hcd2) hncd rfl rfl rfl rfl rfl (fun _ => rfl) (fun _ => by show 3 ≤ 1000; decide) fun h₈ t3 tk₈ z8 => ?_)
    have hlcd' : l ≠ cd := fun q => by
      have := hup _ _ hcd2
      rw [← q, upd_self] at this
      have := congrArg (fun o => o.map Obj.cls) this
      simp at this
    refine wpAny_execs_nil (h h₈ tk₈ _ l z8.led (fun x o q1 q2 => ?_) ?_ hnl ?_)
    · rw [upd_ne q1]; exact hup _ _ (hrest _ _ q1 q2)
    · refine hnone l ?_
      cases q : ld l with
      | none => rfl
      | some o => rw [upd_tmp hsz (upd_tmp hd5' (hfk' _ _ q))] at hl0; cases hl0
    · exact { inst := by rw [upd_ne hcl]; exact hup _ _ (hrest _ _ hcl hc), dict := ⟨_, _, _, _, _, _, _, upd_self⟩, list := ⟨vs', n', by rw [upd_ne hlcd', upd_self], hi7⟩ }
  rcases hpos with ⟨rfl, rfl, rfl⟩ | rfl
  · refine enterC (n := 0) (binds := [("self", .ref c), ("lits", .ref lw), ("learned", .bool false), ("rule", .none)]) C hB r rfl rfl rfl (binds_K hX rfl rfl rfl rfl rfl) rfl rfl rfl rfl rfl rfl rfl rfl ?_
    intro A' env L h₁ tk r' e z
    exact go A' env L h₁ tk _ _ _ rfl rfl r' e z rfl rfl rfl rfl
  · refine enterC (n := 0) (binds := [("self", .ref c), ("lits", .ref lw), ("learned", v1), ("rule", v2)]) C hB r rfl rfl rfl (binds_K hX rfl rfl rfl rfl rfl) rfl rfl rfl rfl rfl rfl rfl rfl ?_
    intro A' env L h₁ tk r' e z
    exact go A' env L h₁ tk _ _ _ rfl rfl r' e z rfl rfl rfl rfl
end
end Mine

namespace Mine
section
variable {prog : Program} {w : World} {A : Around} {E : Value → Shared → Prop} {s : Shared}
abbrev noSet (w : World) : Obj := setObj #[] 0 (.fresh 0 0 (!(w.params.followText "set-order")))
theorem code_set_mine {Q₁ : Value → Shared → Prop} (h : Q₁ (.ref s.heap.objs.size) { s with heap := s.heap.push (noSet w) }) :
    codeAny (model prog w) A (.call (.builtin "set.__new__") ⟨[.type "set"], []⟩) (wants Q₁ E) s := by
  refine codeAny_call_builtin F.plain_set_new F.entry_set_new (wpAny_of_eq F.newCall_set_0 ?_)
  unfold Builtin.«set.__new__» Builtin.Frozenset.newClass
  have hsub := sub_set_self
  obtain ⟨hp, g, d, tk, os⟩ := s
  dsimp only
  wp_walk
  refine wpAny_askSetting (wpAny_pure ?_)
  dsimp only
  simp only [newObj]
  refine wpAny_bind (wpAny_alloc (wpAny_pure ?_))
  exact wpAny_pure h
set_option maxHeartbeats 1000000 in
theorem call_set_mine {Q : Value → Shared → Prop} (h : Q (.ref s.heap.objs.size) { s with heap := s.heap.push (noSet w) }) : wpAny (model prog w) A (call (.type "set") []) Q E s := by
  obtain ⟨c, tl, hmro⟩ := F.called_set.mro
  have hmade := F.called_set.made
  have hsub := F.called_set.sub
  have h1 := F.called_set.notType
  have h2 := F.called_set.canCreate
  have hct := F.typeCall_set_0
  refine wpAny_call (codeAny_of_tree ?_)
  show wpAny _ _ (callAny (.type "set") _) _ _ _
  refine wpAny_pure ⟨Code.quiet_builtin _ (by decide +kernel), codeAny_builtin F.entry_type_call ?_⟩
  rw [Around.under_plain (weight_type_call_type "set" [] []) rfl]
  repeat (any_goals (first | assumption | wp_step))
  refine codeAny_mono (code_set_mine (E := E) (Q₁ := fun v s₁ => v = .ref s.heap.objs.size ∧ s₁ = { s with heap := s.heap.push (noSet w) }) ⟨rfl, rfl⟩) fun r s₁ hr => ?_
  have hT : Shared.TypeIs { s with heap := s.heap.push (noSet w) } (.ref s.heap.objs.size) "set" := ⟨_, Heap.get?_push_size _ rfl, rfl⟩
  have hli := F.called_set.init.lookup
  have hbi := F.called_set.init.bind (.ref s.heap.objs.size)
  match r, hr with
  | .error e, hr => exact hr
  | .ok (.ret v), hr =>
    obtain ⟨rfl, rfl⟩ := hr
    repeat (any_goals (first | assumption | wp_step))
    refine codeAny_mono (codeAny_call_builtin (R := wants (fun r s₂ => r = .none ∧ Q (.ref s.heap.objs.size) s₂) E) F.called_set.init.plain F.entry_set_init (check_set_init hT ?_)) fun r₂ s₂ hr₂ => ?_
    · unfold Builtin.«set.__init__» noKeywords
      wp_walk
      exact ⟨rfl, h⟩
    · match r₂, hr₂ with
      | .error e, hr₂ => exact hr₂
      | .ok (.ret r), hr₂ =>
        obtain ⟨rfl, hq⟩ := hr₂
        repeat (any_goals (first | assumption | wp_step))
      | .ok .next, hr₂ => exact hr₂.elim
      | .ok .brk, hr₂ => exact hr₂.elim
      | .ok .cont, hr₂ => exact hr₂.elim
  | .ok .next, hr => exact hr.elim
  | .ok .brk, hr => exact hr.elim
  | .ok .cont, hr => exact hr.elim
end
end Mine

namespace Mine

section
variable {prog : Program} {w : World} {A : Around} {E : Value → Shared → Prop} {s : Shared} {K : Frag} {mg mb : Str → Option Value} {b : Heap} {L : Addr} {m : Str → Option Value} {ld : Ld} {env : Env} {sc : Scope}

theorem ev_or2 {x y : Expr} {pos : Pos} {Q : Value → Shared → Prop}
    (h : wpAny (model prog w) A (eval x env) (fun v s₁ => wpAny (model prog w) A (truthy v) (fun t s₂ => if t then Q v s₂ else wpAny (model prog w) A (eval y env) Q E s₂) E s₁) E s) : wpAny (model prog w) A (eval (.BoolOp .Or [x, y] pos) env) Q E s := by
  show wpAny _ _ (do
    let v ← eval x env
    standAt pos
    let t ← holding [v] (truthy v)
    match BoolOp.Or, t with
    | .And, false | .Or, true => pure v
    | _, _ => boolOp pos .Or [eval y env]) Q E s
  refine wpAny_bind (wpAny_mono h (fun v s₁ h₁ => wpAny_bind (wpAny_standAt (wpAny_bind (wpAny_holding (wpAny_mono h₁ (fun t s₂ h₂ => ?_) fun _ _ x => x))))) fun _ _ x => x)
  cases t with
  | true => exact wpAny_pure h₂
  | false => exact h₂
theorem ev_and {x y : Expr} {rest : List Expr} {pos : Pos} {Q : Value → Shared → Prop}
    (h : wpAny (model prog w) A (eval x env) (fun v s₁ => wpAny (model prog w) A (truthy v) (fun t s₂ => if t then wpAny (model prog w) A (eval (.BoolOp .And (y :: rest) pos) env) Q E s₂ else Q v s₂) E s₁) E s) : wpAny (model prog w) A (eval (.BoolOp .And (x :: y :: rest) pos) env) Q E s := by
  show wpAny _ _ (do
    let v ← eval x env
    standAt pos
    let t ← holding [v] (truthy v)
    match BoolOp.And, t with
    | .And, false | .Or, true => pure v
    | _, _ => boolOp pos .And (eval y env :: evalEach rest env)) Q E s
  refine wpAny_bind (wpAny_mono h (fun v s₁ h₁ => wpAny_bind (wpAny_standAt (wpAny_bind (wpAny_holding (wpAny_mono h₁ (fun t s₂ h₂ => ?_) fun _ _ x => x))))) fun _ _ x => x)
  cases t with
  | false => exact wpAny_pure h₂
  | true => exact h₂
theorem ev_and1 {x : Expr} {pos : Pos} {Q : Value → Shared → Prop} (h : wpAny (model prog w) A (eval x env) Q E s) : wpAny (model prog w) A (eval (.BoolOp .And [x] pos) env) Q E s := h

theorem call_set0 {Q : Value → Shared → Prop} (z : Z b L m ld s.heap)
    (h : ∀ h', Z b L m (upd ld s.heap.objs.size (noSet w)) h' → Q (.ref s.heap.objs.size) { s with heap := h' }) : wpAny (model prog w) A (call (.type "set") []) Q E s :=
  call_set_mine (h _ (z.push (noSet w)))

theorem ev_dict0 {pos : Pos} {Q : Value → Shared → Prop} (z : Z b L m ld s.heap)
    (h : ∀ h', Z b L m (upd ld s.heap.objs.size (dictOf [] 0)) h' → Q (.ref s.heap.objs.size) { s with heap := h' }) : wpAny (model prog w) A (eval (.Dict [] [] pos) env) Q E s :=
  wpAny_Dict_empty (h _ (z.push (dictOf [] 0)))

/-- for k, v in ({}).items() -/
theorem iter_items0 {Q : Flow → Shared → Prop} {target : Expr} {body : List Stmt} {v d : Addr} {ep : Nat} {mm : Nat} (r : Room A mm)
    (z : Z b L m ld s.heap) (hv : ld v = some { cls := .type "dict_items", data := .fields #[.ref d] }) (hd : ld d = some (dictOf [] ep))
    (h : ∀ h' tk, Z b L m ld h' → Q .next { s with heap := h', toks := tk }) :
    wpAny (model prog w) A (pyIter (.ref v)) (fun it s₂ => codeAny (model prog w) A (.forLoop target it body [] env) (fun r s' => match r with | .ok f => Q f s' | .error e => cameBackBy (model prog w) A env (fun _ _ => False) e s') s₂) (fun _ _ => False) s := by
  have hD : s.heap.DictAt (intKind prog w) d [] ep := ⟨_, #[], z.led _ _ hd, ⟨rfl, rfl, rfl⟩, rfl, (fun _ h => by simp at h), by first | exact .nil | trivial, .nil⟩
  refine wpAny_pyIter_items (knd := intKind prog w) ⟨_, z.led _ _ hv, rfl, rfl⟩ hD ?_
  have hI : (s.heap.push { cls := .type "dict_itemiterator", data := .fields #[.none, .bool false, .ref d, .int 0 0, .int ([] : List (Int × Value)).length 0, .int ep 0, .none, .none] }).get? s.heap.objs.size = some { cls := .type "dict_itemiterator", data := .fields #[.none, .bool false, .ref d, .int 0 0, .int ([] : List (Int × Value)).length 0, .int ep 0, .none, .none] } := Heap.get?_push_size _ rfl
  refine codeAny_forLoop_any (fun k s' => s' = { s with heap := s.heap.push { cls := .type "dict_itemiterator", data := .fields #[.none, .bool false, .ref d, .int 0 0, .int ([] : List (Int × Value)).length 0, .int ep 0, .none, .none] } }) ?_ 0 rfl
  rintro k s' rfl
  refine wpAny_pyNext_items_end (knd := intKind prog w) (i := 0) (kvs := []) (ep := ep) (d := d) (ok := .none) (ov := .none) r.handled hI (hD.push _) rfl fun h' he => wpAny_execs_nil ?_
  exact h h' _ (z.ext fun c o q => he c o (ne_of_lt1 (Heap.lt_size q)) (Heap.get?_push_of_some _ q))

theorem dm_items {d : Addr} {o : Obj} {kvs : List (Int × Value)} {pl : Sem Bool} {Q : Value × List Value → Shared → Prop} (z : Z b L m ld s.heap) (hd : ld d = some o) (hk : o.IsDictOf (intKind prog w) kvs) (h : Q (.builtin "dict.items", [.ref d]) s) :
    wpAny (model prog w) A (getMethod (.ref d) "items" pl) Q E s :=
  getMethod_builtin (dictAt z hd hk).typeIs PySem.F.plainAttrs_dict PySem.F.slot_dict_items PySem.F.type_dict_items (dictAt z hd hk).mapOf.noDict h
theorem d_items {d : Addr} {o : Obj} {kvs : List (Int × Value)} {Q : Value → Shared → Prop} (C : Cx K mg mb b) (z : Z b L m ld s.heap) (hd : ld d = some o) (hn : New b d) (hk : o.IsDictOf (intKind prog w) kvs)
    (h : Q (.ref s.heap.objs.size) { s with heap := s.heap.push { cls := .type "dict_items", data := .fields #[.ref d] } }) : wpAny (model prog w) A (call (.builtin "dict.items") [.ref d]) Q E s :=
  call_meetsIn PySem.F.slot_dict_items (dictAt z hd hk).typeIs PySem.F.entry_dict_items (PySem.F.args_dict_items_1 _) (meets_dict_items (intKind prog w) d (C.notSys hn)) ⟨⟨_, dictAt z hd hk⟩, h⟩
theorem isDict_nil {n : Nat} : (dictOf [] n).IsDictOf (intKind prog w) [] := ⟨#[], n, ⟨rfl, rfl, rfl⟩, rfl, (fun _ h => by simp at h), by first | exact .nil | trivial, .nil⟩
theorem cw_type0 {T : String} {pos : Pos} {Q : Value → Shared → Prop} (h : wpAny (model prog w) A (call (.type T) []) Q E s) : wpAny (model prog w) A (callWith pos (.type T) [] (backTo pos (starEach [] env)) []) Q E s :=
  PySem.callWith_type rfl (evalArgs_nil3 h)
end
end Mine

namespace Mine

section
variable {w : World} {A : Around} {E : Value → Shared → Prop} {s : Shared} {mg mb : Str → Option Value} {b : Heap}

theorem mkClause_spec {lw : Addr} {v1 v2 : Value} {pos : List Value} {vs : List Value} {ns : List Int} {n : Nat} {Q : Value → Shared → Prop}
    (C : Cx (KK w) mg mb b) (hB : Bs b s.heap) (r : Room A 2) (hl : s.heap.get? lw = some (listOf vs.toArray n)) (hi : IntsAre vs ns) (hns : ns.length ≤ 1000)
    (hpos : pos = [.ref lw] ∧ v1 = .bool false ∧ v2 = .none ∨ pos = [.ref lw, v1, v2]) (hv1 : handedIn v1 = true) (hv2 : handedIn v2 = true)
    (h : ∀ h' tk ld' c cd l, Led ld' h' → (∀ x o, s.heap.get? x = some o → ld' x = some o) → s.heap.get? c = none → s.heap.get? cd = none → s.heap.get? l = none → New b c → New b cd → New b l → Cl ld' c cd l v1 v2 (dedup ns) → Q (.ref c) { s with heap := h', toks := tk }) :
    wpAny (model PP w) A (call (.ref 96) pos) Q E s := by
  refine make_inst (n := 1) C hB r rfl rfl rfl fun A' x dx h' r' hx hdx hne hnx hndx hB' led => ?_
  have hrest : ∀ c o, s.heap.get? c = some o → h'.get? c = some o := fun c o q => led c o (by
    rw [upd_ne (fun e => by rw [e, hx] at q; cases q), upd_ne (fun e => by rw [e, hdx] at q; cases q)]; exact q)
  have hcx : h'.get? x = some (instObj 96 dx) := led _ _ upd_self
  have hcd : h'.get? dx = some (dictOf [] 0) := led _ _ (by rw [upd_ne hne.symm, upd_self])
  refine clinit_spec (v1 := v1) (v2 := v2) C hB' r' hcx hcd hndx (hrest _ _ hl) hi hns ?_ hv1 hv2 fun h₂ tk ld' l led' hk hl0 hnl hcl => ?_
  · rcases hpos with ⟨rfl, q⟩ | rfl
    · exact .inl ⟨rfl, q⟩
    · exact .inr rfl
  · refine ⟨rfl, h h₂ tk ld' x dx l led' (fun c o q => hk c o (fun e => by rw [e, hdx] at q; cases q) (hrest c o q)) hx hdx ?_ hnx hndx hnl hcl⟩
    cases q : s.heap.get? l with
    | none => rfl
    | some o => exact absurd ((hrest _ _ q).symm.trans hl0) (by simp)

/-- an object under way: its attributes so far, the objects made for them -/
structure Stg (h₀ b : Heap) (L : Addr) (m : Loc) (a ad : Addr) (es : List DictEntry) (n : Nat) (xs : List (Addr × Obj)) (ld : Ld) (h : Heap) : Prop where
  z : Z b L m ld h
  ia : ld a = some (instObj 256 ad)
  id : ld ad = some (dictOf es n)
  rest : ∀ x o, x ≠ ad → h₀.get? x = some o → ld x = some o
  ob : ∀ p ∈ xs, ld p.1 = some p.2 ∧ h₀.get? p.1 = none ∧ New b p.1 ∧ p.1 ≠ ad
  nd : (xs.map (·.1)).Nodup
theorem Stg.alloc {h₀ b : Heap} {L : Addr} {m : Loc} {a ad x : Addr} {es : List DictEntry} {n : Nat} {xs : List (Addr × Obj)} {ld : Ld} {h h' : Heap} {o : Obj} (S : Stg h₀ b L m a ad es n xs ld h) (hx : x = h.objs.size) (h0 : h₀.get? ad ≠ none) (z' : Z b L m (upd ld x o) h') :
    Stg h₀ b L m a ad es n ((x, o) :: xs) (upd ld x o) h' := by
  subst hx
  have hn := S.z.size_none
  have hne : h.objs.size ≠ ad := fun q => by rw [q, S.id] at hn; cases hn
  refine ⟨z', upd_tmp hn S.ia, upd_tmp hn S.id, fun y oy q1 q2 => upd_tmp hn (S.rest y oy q1 q2), fun p hp => ?_, List.nodup_cons.mpr ⟨fun q => ?_, S.nd⟩⟩
  · rcases List.mem_cons.mp hp with rfl | hp
    · refine ⟨upd_self, ?_, S.z.bs.size, hne⟩
      cases q : h₀.get? h.objs.size with
      | none => rfl
      | some oy => have := S.rest _ _ hne q; rw [hn] at this; cases this
    · obtain ⟨h1, h2, h3, h4⟩ := S.ob p hp
      exact ⟨upd_tmp hn h1, h2, h3, h4⟩
  · obtain ⟨p, hp, e⟩ := List.mem_map.mp q
    have := (S.ob p hp).1
    rw [e, hn] at this; cases this
theorem Stg.attr {h₀ b : Heap} {L : Addr} {m : Loc} {a ad : Addr} {es es' : List DictEntry} {n n' : Nat} {xs : List (Addr × Obj)} {ld : Ld} {h h' : Heap} (S : Stg h₀ b L m a ad es n xs ld h) (z' : Z b L m (upd ld ad (dictOf es' n')) h') :
    Stg h₀ b L m a ad es' n' xs (upd ld ad (dictOf es' n')) h' :=
  ⟨z', by rw [upd_ne (ne_of_cls S.ia S.id (by simp))]; exact S.ia, upd_self, fun y oy q1 q2 => by rw [upd_ne q1]; exact S.rest y oy q1 q2, fun p hp => by
    obtain ⟨h1, h2, h3, h4⟩ := S.ob p hp
    exact ⟨by rw [upd_ne h4]; exact h1, h2, h3, h4⟩, S.nd⟩

set_option maxHeartbeats 4000000 in
theorem asinit_spec {a ad : Addr} {R : Result → Shared → Prop}
    (C : Cx (KK w) mg mb b) (hB : Bs b s.heap) (r : Room A 1) (ha : s.heap.get? a = some (instObj 256 ad)) (had : s.heap.get? ad = some (dictOf [] 0)) (hnad : New b ad)
    (h : ∀ h' tk ld' p, Led ld' h' → p.a = a → p.ad = ad → p.Ok b → (∀ x o, x ≠ ad → s.heap.get? x = some o → ld' x = some o) → (∀ x ∈ [p.x1, p.x2, p.x3, p.x4, p.x5], s.heap.get? x = none) → AS PP w ld' p (fun _ => none) [] [] → R (.ok (.ret .none)) { s with heap := h', toks := tk }) :
    codeAny (model PP w) A (.call (.ref 113) ⟨[.ref a], []⟩) R s := by
  have hX := C.X.keeps hB.stays
  have haa : a ≠ ad := ne_of_cls ha had (by simp)
  refine enterC (n := 0) (binds := [("self", .ref a), ("assignments", .none)]) C hB r rfl rfl rfl (binds_K hX rfl rfl rfl rfl rfl) rfl rfl rfl rfl rfl rfl rfl rfl ?_
  intro A' env L h₁ tk r' e z
  dsimp only at e
  have h0 : s.heap.get? ad ≠ none := by rw [had]; simp
  have S : Stg s.heap b L _ a ad [] 0 [] s.heap.get? h₁ := ⟨z, ha, had, fun _ _ _ q => q, fun _ h => (nomatch h), .nil⟩
  -- self._data = {}
  refine wpAny_execs_cons (plainObj_wpAny_Assign_Attribute (ev_dict0 z fun h₂ z => ev_loc e z rfl ?_))
  have S := S.alloc rfl h0 z
  refine sa_own (es' := fun t1 => [⟨PyData.keyHash w.params "_data", .str "_data" t1, .ref h₁.objs.size⟩]) (n' := 1) C z S.ia S.id hnad rfl rfl rfl rfl rfl (fun _ => rfl) (fun _ => by show 1 ≤ 1000; decide) fun h₃ t1 tk₃ z => ?_
  have S := S.attr z
  generalize h₁.objs.size = x1 at S z
  dsimp only
  -- self._orig = {}
  refine wpAny_execs_cons (plainObj_wpAny_Assign_Attribute (ev_dict0 z fun h₄ z => ev_loc e z rfl ?_))
  have S := S.alloc rfl h0 z
  refine sa_own (es' := fun t2 => [⟨PyData.keyHash w.params "_data", .str "_data" t1, .ref x1⟩, ⟨PyData.keyHash w.params "_orig", .str "_orig" t2, .ref h₃.objs.size⟩]) (n' := 2) C z S.ia S.id hnad rfl rfl rfl rfl rfl (fun _ => rfl) (fun _ => by show 2 ≤ 1000; decide) fun h₅ t2 tk₅ z => ?_
  have S := S.attr z
  generalize h₃.objs.size = x2 at S z
  dsimp only
  -- self._seen = set()
  refine wpAny_execs_cons (plainObj_wpAny_Assign_Attribute (Call_ (ev_bi e C z rfl PyProof.Rows.boot_set (cw_type0 (call_set0 z fun h₆ z => ev_loc e z rfl ?_)))))
  have S := S.alloc rfl h0 z
  refine sa_own (es' := fun t3 => [⟨PyData.keyHash w.params "_data", .str "_data" t1, .ref x1⟩, ⟨PyData.keyHash w.params "_orig", .str "_orig" t2, .ref x2⟩, ⟨PyData.keyHash w.params "_seen", .str "_seen" t3, .ref h₅.objs.size⟩]) (n' := 3) C z S.ia S.id hnad rfl rfl rfl rfl rfl (fun _ => rfl) (fun _ => by show 3 ≤ 1000; decide) fun h₇ t3 tk₇ z => ?_
  have S := S.attr z
  generalize h₅.objs.size = x3 at S z
  dsimp only
  -- self._cached_changelog = None
  refine wpAny_execs_cons (plainObj_wpAny_Assign_Attribute (wpAny_Constant_none (ev_loc e z rfl ?_)))
  refine sa_own (es' := fun t4 => [⟨PyData.keyHash w.params "_data", .str "_data" t1, .ref x1⟩, ⟨PyData.keyHash w.params "_orig", .str "_orig" t2, .ref x2⟩, ⟨PyData.keyHash w.params "_seen", .str "_seen" t3, .ref x3⟩, ⟨PyData.keyHash w.params "_cached_changelog", .str "_cached_changelog" t4, .none⟩]) (n' := 4) C z S.ia S.id hnad rfl rfl rfl rfl rfl (fun _ => rfl) (fun _ => by show 4 ≤ 1000; decide) fun h₈ t4 tk₈ z => ?_
  have S := S.attr z
  dsimp only
  -- self._assigned_ids = set()
  refine wpAny_execs_cons (plainObj_wpAny_Assign_Attribute (Call_ (ev_bi e C z rfl PyProof.Rows.boot_set (cw_type0 (call_set0 z fun h₉ z => ev_loc e z rfl ?_)))))
  have S := S.alloc rfl h0 z
  refine sa_own (es' := fun t5 => [⟨PyData.keyHash w.params "_data", .str "_data" t1, .ref x1⟩, ⟨PyData.keyHash w.params "_orig", .str "_orig" t2, .ref x2⟩, ⟨PyData.keyHash w.params "_seen", .str "_seen" t3, .ref x3⟩, ⟨PyData.keyHash w.params "_cached_changelog", .str "_cached_changelog" t4, .none⟩, ⟨PyData.keyHash w.params "_assigned_ids", .str "_assigned_ids" t5, .ref h₈.objs.size⟩]) (n' := 5) C z S.ia S.id hnad rfl rfl rfl rfl rfl (fun _ => rfl) (fun _ => by show 5 ≤ 1000; decide) fun h₁₀ t5 tk₁₀ z => ?_
  have S := S.attr z
  generalize h₈.objs.size = x4 at S z
  dsimp only
  -- self.new_keys = set()
  refine wpAny_execs_cons (plainObj_wpAny_Assign_Attribute (Call_ (ev_bi e C z rfl PyProof.Rows.boot_set (cw_type0 (call_set0 z fun h₁₁ z => ev_loc e z rfl ?_)))))
  have S := S.alloc rfl h0 z
  refine sa_own (es' := fun t6 => asEs (PyData.keyHash w.params "_data") (PyData.keyHash w.params "_orig") (PyData.keyHash w.params "_seen") (PyData.keyHash w.params "_cached_changelog") (PyData.keyHash w.params "_assigned_ids") (PyData.keyHash w.params "new_keys") t1 t2 t3 t4 t5 t6 x1 x2 x3 x4 h₁₀.objs.size) (n' := 6) C z S.ia S.id hnad rfl rfl rfl rfl rfl (fun _ => rfl) (fun _ => by show 6 ≤ 1000; decide) fun h₁₂ t6 tk₁₂ z => ?_
  have S := S.attr z
  generalize h₁₀.objs.size = x5 at S z
  dsimp only
  -- for k, v in (assignments or {}).items()
  refine wpAny_execs_cons (wpAny_For (MethodCall_ (ev_or2 (ev_loc e z rfl (truthy_none ?_)))) (by intro _; rfl))
  rw [if_neg (by simp)]
  refine ev_dict0 z fun h₁₃ z => dm_items z upd_self isDict_nil (callWith_method0 (d_items C z upd_self S.z.bs.size isDict_nil ?_))
  have z' := z.push { cls := .type "dict_items", data := .fields #[.ref h₁₂.objs.size] }
  refine iter_items0 r' z' upd_self (upd_tmp z.size_none upd_self) fun h₁₄ tk₁₄ z'' => wpAny_execs_nil ?_
  have hled := z''.led
  have hd := S.z.size_none
  have up : ∀ x o, _ → _ := fun x o q => upd_tmp (o := { cls := .type "dict_items", data := .fields #[.ref h₁₂.objs.size] }) z.size_none (upd_tmp (c := x) (oc := o) hd q)
  obtain ⟨b5, c5, d5, e5⟩ := S.ob (x5, _) (.head _)
  obtain ⟨b4, c4, d4, e4⟩ := S.ob (x4, _) (.tail _ (.head _))
  obtain ⟨b3, c3, d3, e3⟩ := S.ob (x3, _) (.tail _ (.tail _ (.head _)))
  obtain ⟨b2, c2, d2, e2⟩ := S.ob (x2, _) (.tail _ (.tail _ (.tail _ (.head _))))
  obtain ⟨b1, c1, d1, e1⟩ := S.ob (x1, _) (.tail _ (.tail _ (.tail _ (.tail _ (.head _)))))
  have nd := S.nd
  simp only [List.map_cons, List.map_nil, List.nodup_cons, List.mem_cons, List.not_mem_nil, or_false, not_or, List.nodup_nil, and_true] at nd
  refine h h₁₄ tk₁₄ _ ⟨a, ad, x1, x2, x3, x4, x5⟩ hled rfl rfl ⟨hnad, d1, d2, d3, d4, d5, e1.symm, e2.symm, ?_, ?_, ?_, ?_⟩ (fun x o q1 q2 => up _ _ (S.rest x o q1 q2)) ?_ ?_
  · exact fun q => nd.2.2.2.1 q.symm
  · exact fun q => nd.2.1.1 q.symm
  · exact fun q => nd.1.2.1 q.symm
  · exact fun q => nd.1.1 q.symm
  · intro x hx
    simp only [List.mem_cons, List.not_mem_nil, or_false] at hx
    rcases hx with rfl | rfl | rfl | rfl | rfl <;> assumption
  · exact {
      inst := up _ _ S.ia
      dict := ⟨_, _, _, _, _, _, _, _, _, _, _, _, _, up _ _ S.id⟩
      data := ⟨_, [], up _ _ b1, isDict_nil, fun _ => rfl, fun _ _ q => (nomatch q)⟩
      orig := ⟨_, [], up _ _ b2, isDict_nil, fun _ _ q => (nomatch q), fun _ _ q => (nomatch q)⟩
      seen := ⟨_, up _ _ b3, SetK.fresh w, fun _ q => (nomatch q)⟩
      asg := ⟨_, up _ _ b4, SetK.fresh w, fun _ q => (nomatch q)⟩
      nk := ⟨_, [], up _ _ b5, SetK.fresh w, fun _ q => (nomatch q)⟩ }

theorem mkASet_spec {Q : Value → Shared → Prop} (C : Cx (KK w) mg mb b) (hB : Bs b s.heap) (r : Room A 2)
    (h : ∀ h' tk ld' p, Led ld' h' → p.Ok b → New b p.a → (∀ x o, s.heap.get? x = some o → ld' x = some o) → (∀ x ∈ p.a :: p.W, s.heap.get? x = none) → AS PP w ld' p (fun _ => none) [] [] → Q (.ref p.a) { s with heap := h', toks := tk }) :
    wpAny (model PP w) A (call (.ref 256) []) Q E s := by
  refine make_inst (n := 1) C hB r rfl rfl rfl fun A' x dx h' r' hx hdx hne hnx hndx hB' led => ?_
  have hrest : ∀ c o, s.heap.get? c = some o → h'.get? c = some o := fun c o q => led c o (by
    rw [upd_ne (fun e => by rw [e, hx] at q; cases q), upd_ne (fun e => by rw [e, hdx] at q; cases q)]; exact q)
  refine asinit_spec C hB' r' (led _ _ upd_self) (led _ _ (by rw [upd_ne hne.symm, upd_self])) hndx fun h₂ tk ld' p led' hpa hpd hok hk hnone S => ?_
  subst hpa hpd
  refine ⟨rfl, h h₂ tk ld' p led' hok hnx (fun c o q => hk c o (fun e => by rw [e, hdx] at q; cases q) (hrest c o q)) (fun c hc => ?_) S⟩
  have h1 : ∀ c ∈ [p.x1, p.x2, p.x3, p.x4, p.x5], s.heap.get? c = none := fun c hc => by
    cases q : s.heap.get? c with
    | none => rfl
    | some o => exact absurd ((hrest _ _ q).symm.trans (hnone c hc)) (by simp)
  rcases List.mem_cons.mp hc with rfl | hc
  · exact hx
  · rcases List.mem_cons.mp hc with rfl | hc
    · exact hdx
    · exact h1 c hc
end
end Mine

namespace Mine

def CellIs (ld : Ld) (c : Addr) (v : Option Value) : Prop := ∃ o, ld c = some o ∧ o.data = .cell v

def closL (cells : List (Str × Addr)) : List (Str × NameKind) → List (Str × Addr) → Option (List (Str × Addr))
  | [], acc => some acc
  | (n, k) :: r, acc => if k == .free then (match cells.lookup n with | some c => closL cells r ((n, c) :: acc) | none => none) else closL cells r acc

theorem closureFor_of {scope : Scope} {env : Env} {cl cells : List (Str × Addr)} (hc : env.cells = cells) (h : closL cells scope.names [] = some cl) : closureFor scope env = pure cl := by
  subst hc
  simp only [closureFor]
  suffices ∀ (names : List (Str × NameKind)) acc cl', closL env.cells names acc = some cl' →
      (forIn names acc (fun x r => match x with | (name, kind) => if (kind == NameKind.free) = true then do let c ← cellOf env name; pure (ForInStep.yield ((name, c) :: r)) else pure (ForInStep.yield r)) : Sem (List (Str × Addr))) = pure cl' by
    exact (congrArg (fun t : Sem (List (Str × Addr)) => t >>= pure) (this _ _ _ h)).trans rfl
  intro names
  induction names with
  | nil => intro acc cl' h; cases h; rfl
  | cons p r ih =>
    obtain ⟨n, k⟩ := p
    intro acc cl' h
    rw [List.forIn_cons]
    unfold closL at h
    by_cases hk : (k == NameKind.free) = true
    · simp only [hk, if_true] at h ⊢
      cases hl : env.cells.lookup n with
      | none => rw [hl] at h; cases h
      | some c =>
        rw [hl] at h
        have : cellOf env n = pure c := by unfold cellOf; rw [hl]
        rw [this]
        exact ih _ _ h
    · simp only [hk, if_false] at h ⊢
      exact ih _ _ h

abbrev kin (sc : Scope) : Str → Option NameKind := fun x => sc.names.lookup x
def relab (scope sc : Scope) : Scope := relabel scope { scope := sc, locals := 0, globals := 0, cells := [] }

section
variable {prog : Program} {w : World} {A : Around} {E : Value → Shared → Prop} {s : Shared} {K : Frag} {mg mb : Str → Option Value} {b : Heap} {L : Addr} {m : Str → Option Value} {ld : Ld} {env : Env} {sc : Scope}

theorem EnvIs.relab (e : EnvIs env sc L) (scope : Scope) : relabel scope env = relab scope sc := by
  unfold Mine.relab relabel Env.kindOf; rw [e.scope]
theorem EnvIs.comp (e : EnvIs env sc L) {scope : Scope} (hk : scope.kind = .function) (cl : List (Str × Addr)) (C : Addr) : EnvIs (compEnvC scope cl C env) (Mine.relab scope sc) C where
  scope := e.relab scope
  locals := rfl
  globals := e.globals
  builtins := e.builtins
  kind := hk

theorem ev_cell {x : Str} {pos : Pos} {v : Value} {c : Addr} {Q : Value → Shared → Prop} (e : EnvIs env sc L) (hc : env.cells.lookup x = some c) (z : Z b L m ld s.heap) (hv : CellIs ld c (some v)) (h : Q v s)
    (hl : sc.names.lookup x = some .cell := by rfl) (hd : (x == ("__debug__" : Str)) = false := by decide) : wpAny (model prog w) A (eval (.Name x pos) env) Q E s :=
  wpAny_Name (wpAny_loadName_cell e.fn (e.kindOf hl) hc (let ⟨o, a, d⟩ := hv; ⟨o, z.led _ _ a, d⟩) h) hd

theorem st_cell {x : Str} {v : Value} {ov : Option Value} {c : Addr} {Q : Unit → Shared → Prop} (e : EnvIs env sc L) (hc : env.cells.lookup x = some c) (z : Z b L m ld s.heap) (hv : CellIs ld c ov) (hb : b.get? c = none)
    (h : ∀ h' ld', Z b L m ld' h' → CellIs ld' c (some v) → (∀ a, a ≠ c → ld' a = ld a) → Q () { s with heap := h' })
    (hl : sc.names.lookup x = some .cell := by rfl) : wpAny (model prog w) A (storeName env x v) Q E s := by
  obtain ⟨o, ho, hd⟩ := hv
  refine wpAny_storeName_cell e.fn (e.kindOf hl) hc ⟨o, z.led _ _ ho, hd⟩ fun h' hv' hs' => ?_
  obtain ⟨o', ho', hd'⟩ := hv'
  exact h h' _ (z.sameBut ho hb hs' ho') ⟨o', upd_self, hd'⟩ fun a ha => upd_ne ha

theorem lookup_isSome {α : Type} : ∀ (l : List (Str × α)) (k : Str), (l.lookup k).isSome = (l.map (·.1)).contains k
  | [], _ => rfl
  | (n, c) :: r, k => by
    rw [List.lookup_cons, List.map_cons, List.contains_cons]
    cases h : k == n with
    | true => rfl
    | false => rw [Bool.false_or]; exact lookup_isSome r k
theorem cells_isSome {names : List (Str × NameKind)} {k : Str} (n n' : Nat) : ((cellsFrom n names []).lookup k).isSome = ((cellsFrom n' names []).lookup k).isSome := by
  rw [lookup_isSome, lookup_isSome, cellsFrom_names names n n' [] [] rfl]

/-- enter a def that has cells -/
theorem enterX {n : Nat} {f : Addr} {oc : Value} {od : Option Addr} {osl : Array (Option Value)} {fd : FuncData} {body : List Stmt} {pos : List Value} {kw : List (Str × Value)} {binds : List (Str × Value)} {Q : Value → Shared → Prop}
    (C : Cx K mg mb b) (hB : Bs b s.heap) (r : Room A (n + 1)) (ho : K.lookup f = some ⟨oc, od, .func fd, osl⟩) (hcd : codeIn K fd.code fd.qualname = true)
    (hbody : fd.body = .stmts body) (hbind : BindsTo s fd ⟨pos, kw⟩ binds)
    (hkind : (binds.all fun x => decide (fd.scope.names.lookup x.1 = some .local) || (decide (fd.scope.names.lookup x.1 = some .cell) && ((cellsFrom 0 fd.scope.names []).lookup x.1).isSome)) = true)
    (hg : fd.globals = mainGlobals) (hbu : fd.builtins = builtinsNs) (hcl : fd.closure = []) (hco : fd.scope.isCoroutine = false) (hgen : fd.scope.isGenerator = false) (hk : fd.scope.kind = .function)
    (h : ∀ A' env L ld h₁ tk, Room A' n → EnvIs env fd.scope L → env.cells = cellsFrom (L + 1) fd.scope.names [] → New b L → s.heap.get? L = none → Z b L (bindL (kin fd.scope) binds fun _ => none) ld h₁ →
      (∀ a o, s.heap.get? a = some o → ld a = some o) → (∀ n c, env.cells.lookup n = some c → CellIs ld c (bindC (kin fd.scope) binds (fun _ => none) n) ∧ s.heap.get? c = none ∧ New b c) → env.code = fd.code →
      wpAny (model prog w) A' (execs body env) (fun fl s' => Q (match fl with | .ret v => v | _ => .none) s') (fun _ _ => False) { s with heap := h₁, toks := tk }) :
    wpAny (model prog w) A (call (.ref f) pos kw) Q E s := by
  refine wpAny_call ?_
  have hX := C.X.keeps hB.stays
  have hL0 : ∀ c : Nat, s.heap.objs.size ≤ c → s.heap.get? c = none := fun c hc => by
    cases e : s.heap.get? c with
    | none => rfl
    | some o => exact absurd (Heap.lt_size e) (Nat.not_lt.mpr hc)
  refine codeAny_call_function (fd := fd) r.room (hX _ _ ho) rfl hco hgen hbody (codeRec_of hX hcd) (hbind _ _ _ _ ?_)
  rw [hcl]
  refine wpAny_newFunctionEnv_cells hk (fun x hx => ?_) fun env' he s' x => ?_
  · have q := List.all_eq_true.mp hkind x hx
    simp only [Bool.or_eq_true, Bool.and_eq_true, decide_eq_true_eq] at q
    rw [cells_isSome _ 0]
    exact q
  have hke : env'.kindOf = kin fd.scope := by subst he; rfl
  have hc' : env'.cells = cellsFrom (s.heap.objs.size + 1) fd.scope.names [] := by subst he; rfl
  have hL' : env'.locals = s.heap.objs.size := by subst he; rfl
  have hcode' : env'.code = fd.code := by subst he; rfl
  have hE : EnvIs env' fd.scope s.heap.objs.size := by subst he; exact ⟨rfl, rfl, hg, hbu, hk⟩
  refine ⟨(C.nolimit.keeps hB.stays).keeps x.toInCall.keep, codeAny_func ?_⟩
  obtain ⟨h₁, tk, rfl, hk₁⟩ := x.done
  have hns := x.toInCall.ns
  have hcell := x.cell
  have habove := x.above
  rw [hke, hL'] at hns
  rw [hke] at hcell
  rw [hL'] at habove
  refine wpAny_mono (h _ env' s.heap.objs.size (fun a => if s.heap.objs.size < a then h₁.get? a else s.heap.get? a) h₁ tk (r.deeper _) hE hc' hB.size (hL0 _ (Nat.le_refl _)) ⟨hns, ?_, ?_, ?_, hB.size⟩ ?_ ?_ hcode') (fun fl s' q => ?_) fun _ _ x => x.elim
  · intro a o e
    dsimp only at e
    split at e
    · exact e
    · exact hk₁ _ _ e
  · show (if _ < _ then _ else _) = _; rw [if_neg (Nat.lt_irrefl _)]; exact hL0 _ (Nat.le_refl _)
  · intro a o e
    have := hB.stays a o e
    show (if _ < _ then _ else _) = _; rw [if_neg (Nat.not_lt.mpr (Nat.le_of_lt (Heap.lt_size this)))]; exact this
  · intro a o e
    show (if _ < _ then _ else _) = _; rw [if_neg (Nat.not_lt.mpr (Nat.le_of_lt (Heap.lt_size e)))]; exact e
  · intro n c hc
    have hlt := habove n c (mem_of_lookup hc)
    obtain ⟨o, ho, hd⟩ := hcell n c hc
    exact ⟨⟨o, by show (if _ < _ then _ else _) = _; rw [if_pos hlt]; exact ho, hd⟩, hL0 c (Nat.le_of_lt hlt), Nat.le_trans hB.size (Nat.le_of_lt hlt)⟩
  · cases fl <;> exact q
end
end Mine

namespace Mine

abbrev lstO (ys : List Value) : Obj := listOf ys.toArray ys.length
def CEnd (b : Heap) (C : Addr) (fp : List Addr) (J : Ld → Prop) (lq : Ld) (s s' : Shared) : Prop :=
  ∃ h₂ tk₂ m₂ lf, s' = { s with heap := h₂, toks := tk₂ } ∧ Z b C m₂ lf h₂ ∧ J lf ∧ ∀ a ∈ fp, lf a = lq a
def off (L : Addr) (ld : Ld) : Ld := fun a => if a = L then none else ld a

section
variable {prog : Program} {w : World} {A : Around} {E : Value → Shared → Prop} {s : Shared} {K : Frag} {mg mb : Str → Option Value} {b : Heap} {L : Addr} {m : Str → Option Value} {ld : Ld} {env : Env} {sc : Scope} {h : Heap}

/-- into a frame of its own within the frame L -/
theorem Z.into {o : Obj} {h₁ : Heap} {mC : Loc} (z : Z b L m ld h) (hn : h₁.Ns h.objs.size mC) (hs : Heap.SameBut h.objs.size (h.push o) h₁) : ∃ oL, LCg.NsObj oL m ∧ Z b h.objs.size mC (upd ld L oL) h₁ := by
  obtain ⟨oL, hL, hno⟩ := LCg.ns_obj z.ns
  have keep : ∀ a o', h.get? a = some o' → h₁.get? a = some o' := fun a o' q => hs.extBut a o' (ne_of_lt1 (Heap.lt_size q)) (Heap.get?_push_of_some _ q)
  refine ⟨oL, hno, hn, ?_, ?_, ?_, z.bs.size⟩
  · intro a o' q
    by_cases ha : a = L
    · subst ha; rw [upd_self] at q; cases q; exact keep _ _ hL
    · rw [upd_ne ha] at q; exact keep _ _ (z.led _ _ q)
  · rw [upd_ne (Ne.symm (ne_of_lt1 z.ns.lt))]; exact z.size_none
  · intro a o' q
    have := z.base a o' q
    rw [upd_ne (z.neL this)]; exact this

theorem Z.back {h' : Heap} {C : Addr} {oL : Obj} {mC : Loc} {lq : Ld} (z : Z b C mC lq h) (hL : lq L = some oL) (hno : LCg.NsObj oL m) (hb : b.objs.size ≤ L) (hs : Heap.SameBut C h h') : Z b L m (off L lq) h' where
  ns := hno.ns (hs.extBut _ _ (z.neL hL) (z.led _ _ hL))
  led := fun a o q => by
    unfold off at q
    split at q
    · cases q
    · exact hs.extBut _ _ (z.neL q) (z.led _ _ q)
  fr := by unfold off; rw [if_pos rfl]
  base := fun a o q => by
    unfold off
    rw [if_neg (fun e => by rw [e] at q; exact absurd (Heap.lt_size q) (Nat.not_lt.mpr hb))]
    exact z.base _ _ q
  above := hb

theorem Z.isL {ax : Addr} {items : Array Value} {ep : Nat} (z : Z b L m ld h) (q : ld ax = some (listOf items ep)) : h.IsList ax items := ⟨_, z.led _ _ q, rfl, _, rfl⟩

theorem lc_list {elt iter : Expr} {ifs : List Expr} {x : Str} {px : Pos} {scope : Scope} {cl : List (Str × Addr)} {pos : Pos} {RR : Value → Addr → Result → Shared → Prop} {ax : Addr} {items : Array Value} {ep mm : Nat} (r : Room A mm) (e : EnvIs env sc L)
    (z : Z b L m ld s.heap) (hax : ld ax = some (listOf items ep)) (hsz : items.size ≤ sizeLine)
    (J : Addr → Addr → Nat → List Value → Ld → Prop)
    (h0 : ∀ I D ld₁, ld I = none → ld D = none → (∀ a o, ld a = some o → ld₁ a = some o) → J I D 0 [] ld₁)
    (hJ : ∀ I D, ld I = none → ld D = none → ∀ i ys l l', J I D i ys l → (∀ a, a ≠ I → a ≠ D → a ≠ L → l' a = l a) → J I D i ys l')
    (turn : ∀ I C D i v ys (m₁ : Loc) lq h₁ tk₁, ld I = none → ld D = none → ld C = none → items[i]? = some v → J I D i ys lq → lq ax = some (listOf items ep) → (lq I).isSome = true → lq D = some (lstO ys) → (lq L).isSome = true →
      EnvIs (compEnvC scope cl C env) (relab scope sc) C → Z b C (fun y => if y = x then some v else m₁ y) lq h₁ →
      wpAny (model prog w) A (forIn ifs true fun c r => if r = true then do let ok ← isTrue c (compEnvC scope cl C env) (eval c (compEnvC scope cl C env)); pure (ForInStep.yield ok) else pure (ForInStep.yield r))
        (fun ok s' => if ok = true then wpAny (model prog w) A (eval elt (compEnvC scope cl C env)) (fun y s'' => CEnd b C [I, ax, D, L] (J I D (i + 1) (ys ++ [y])) lq s s'') (fun _ _ => False) s' else CEnd b C [I, ax, D, L] (J I D (i + 1) ys) lq s s')
        (fun _ _ => False) { s with heap := h₁, toks := tk₁ })
    (done : ∀ I D C ys lq mC h₁ tk₁, ld D = none → New b D → J I D items.size ys lq → lq D = some (lstO ys) → Z b L m lq h₁ → lq C = none → L ≠ C → h₁.Ns C mC → RR (.ref D) C (.ok .next) { s with heap := h₁, toks := tk₁ })
    (hx : scope.names.lookup x = some .local := by rfl) (hkind : scope.kind = .function := by rfl) (hcell : (scope.names.all fun x => decide (x.2 ≠ .cell)) = true := by rfl) :
    wpAny (model prog w) A (pyIter (.ref ax)) (fun it s₂ => wpAny (model prog w) A (newList []) (fun acc s₃ => wpAny (model prog w) A (newFunctionEnv scope env.globals cl [] env.qual none .none (some env)) (fun cenv s₄ =>
      codeAny (model prog w) A (.compStart (.ListComp elt [⟨.Name x px, iter, ifs, 0⟩] scope pos) 0 it acc { cenv with scope := relabel scope env }) (RR acc cenv.locals) s₄) E s₃) E s₂) E s := by
  have hl : Heap.IsList s.heap ax items := z.isList hax
  refine wpAny_pyIter_list hl ?_
  have hne : ax ≠ s.heap.objs.size := ne_of_lt1 (Heap.lt_size (z.led _ _ hax))
  have z₂ := z.push { cls := .type "list_iterator", data := .fields #[.ref ax, .int 0 0] }
  have hI0 : ld s.heap.objs.size = none := z.size_none
  have hIb : b.get? s.heap.objs.size = none := New.none (b := b) (z.bs.size)
  generalize hH1 : s.heap.push { cls := .type "list_iterator", data := .fields #[.ref ax, .int 0 0] } = H1 at z₂ ⊢
  have hH1s : H1.objs.size = s.heap.objs.size + 1 := by rw [← hH1, Heap.size_push]
  refine wpAny_newObj_type (wpAny_newFunctionEnv (fun x hx => of_decide_eq_true (List.all_eq_true.mp hcell x hx)) (by intro y hy; simp at hy) (fun h₁ hns₁ hsb₁ => ?_) hkind)
  have z₃ := z₂.push (lstO [])
  dsimp only at hns₁ hsb₁ ⊢
  change h₁.Ns (H1.push (lstO [])).objs.size _ at hns₁
  change Heap.SameBut (H1.push (lstO [])).objs.size ((H1.push (lstO [])).push _) h₁ at hsb₁
  obtain ⟨oL, hoL, z₄⟩ := z₃.into hns₁ hsb₁
  show codeAny _ A (.compStart _ 0 (.ref s.heap.objs.size) (.ref H1.objs.size) (compEnvC scope cl (H1.push (lstO [])).objs.size env)) (RR (.ref H1.objs.size) (H1.push (lstO [])).objs.size) _
  generalize hH2 : H1.push (lstO []) = H2 at z₄ ⊢
  have hH2s : H2.objs.size = H1.objs.size + 1 := by rw [← hH2, Heap.size_push]
  have hD0 : ld H1.objs.size = none := by rw [hH1s]; exact z.none1
  have hC0 : ld H2.objs.size = none := by
    cases q : ld H2.objs.size with
    | none => rfl
    | some o => exact absurd (z.lt q) (by rw [hH2s, hH1s]; exact Nat.not_lt.mpr (Nat.le_succ_of_le (Nat.le_succ _)))
  have hDb : New b H1.objs.size := by unfold New; rw [hH1s]; exact Nat.le_succ_of_le z.bs.size
  have hIL : s.heap.objs.size ≠ L := Ne.symm (ne_of_lt1 z.ns.lt)
  have hDL : H1.objs.size ≠ L := by rw [hH1s]; exact Ne.symm (ne_of_lt2 z.ns.lt)
  have hID : s.heap.objs.size ≠ H1.objs.size := by rw [hH1s]; exact Ne.symm (Nat.succ_ne_self _)
  have haxL : ax ≠ L := z.neL hax
  have haxD : ax ≠ H1.objs.size := by rw [hH1s]; exact ne_of_lt2 (Heap.lt_size (z.led _ _ hax))
  have hCI : H2.objs.size ∉ [s.heap.objs.size] := fun q => by
    have := List.mem_singleton.mp q
    rw [hH2s, hH1s] at this
    exact absurd this (Nat.ne_of_gt (Nat.lt_succ_of_lt (Nat.lt_succ_self _)))
  have hCD : H2.objs.size ≠ H1.objs.size := by rw [hH2s]; exact Nat.succ_ne_self _
  have W := Walks.list (prog := prog) (w := w) r.handled s.heap.objs.size ax hne items
  have eC := e.comp hkind cl H2.objs.size
  have lp : ∀ s₃ : Shared, s₃ = { s with heap := h₁, toks := s.toks + 0 } →
      codeAny (model prog w) A (.compLoop (.ListComp elt [⟨.Name x px, iter, ifs, 0⟩] scope pos) 0 (.ref s.heap.objs.size) (.ref H1.objs.size) (compEnvC scope cl H2.objs.size env))
        (RR (.ref H1.objs.size) H2.objs.size) s₃ := by
    rintro s₃ rfl
    refine codeAny_compLoop_tests
      (fun k s' => ∃ h' tk i ys m' lq, s' = { s with heap := h', toks := tk } ∧ i ≤ items.size ∧ k = items.size + 1 - i ∧ ys.length ≤ i ∧ (h'.IsListIter s.heap.objs.size ax i ∧ h'.IsList ax items) ∧ Z b H2.objs.size m' lq h' ∧ lq L = some oL ∧
        lq H1.objs.size = some (lstO ys) ∧ lq ax = some (listOf items ep) ∧ (lq s.heap.objs.size).isSome = true ∧ J s.heap.objs.size H1.objs.size i ys lq) ?_ (items.size + 1)
      ⟨h₁, _, 0, [], _, _, rfl, Nat.zero_le _, rfl, Nat.le_refl _, ⟨⟨_, z₄.led s.heap.objs.size _ ((upd_ne hIL).trans ((upd_ne hID).trans upd_self)), rfl, rfl⟩, z₄.isL ((upd_ne haxL).trans ((upd_ne haxD).trans ((upd_ne hne).trans hax)))⟩, z₄, upd_self, (upd_ne hDL).trans upd_self,
        (upd_ne haxL).trans ((upd_ne haxD).trans ((upd_ne hne).trans hax)), by rw [upd_ne hIL, upd_ne hID, upd_self]; rfl, h0 _ _ _ hI0 hD0 fun a o q => ?_⟩
    · rintro k s' ⟨h', tk, i, ys, m', lq, rfl, hi, rfl, hyl, hst', z', hqL, hqD, hqx, hqI, hJ'⟩
      by_cases hlt : i < items.size
      · refine W.item i _ _ _ hlt hst' fun v h₂ tk₂ hPv hst₂ hk₂ => ?_
        have z₅ := z'.sees hCI (fun a ha => by rw [List.mem_singleton.mp ha]; exact hIb) (fun a o q => hk₂ a o q)
        have sne : ∀ a, a ≠ s.heap.objs.size → sees [s.heap.objs.size] h₂ lq a = lq a := fun a ha => by unfold sees; rw [if_neg fun q => ha (List.mem_singleton.mp q)]
        have sI : (sees [s.heap.objs.size] h₂ lq s.heap.objs.size).isSome = true := by
          unfold sees; rw [if_pos (List.mem_singleton.mpr rfl)]
          obtain ⟨o, q, _⟩ := hst₂.1
          rw [q]; rfl
        refine wpAny_assign_Name (st_loc eC z₅ (fun h₃ z₆ => ?_) (lookup_relabel_local hx))
        refine wpAny_mono (turn s.heap.objs.size H2.objs.size H1.objs.size i v ys m' (sees [s.heap.objs.size] h₂ lq) h₃ _ hI0 hD0 hC0 hPv (hJ _ _ hI0 hD0 i ys lq _ hJ' fun a ha _ _ => sne a ha) ((sne _ hne).trans hqx) sI ((sne _ (Ne.symm hID)).trans hqD) (by rw [sne L (Ne.symm hIL), hqL]; rfl) eC z₆) (fun ok s₄ h₄ => ?_) fun _ _ x => x.elim
        have stay : ∀ h₅ lf mC, Z b H2.objs.size mC lf h₅ → (∀ a ∈ [s.heap.objs.size, ax, H1.objs.size, L], lf a = sees [s.heap.objs.size] h₂ lq a) → h₅.IsListIter s.heap.objs.size ax (i + 1) ∧ h₅.IsList ax items := fun h₅ lf mC z₇ hf => by
          refine ⟨?_, z₇.isL ((hf ax (by simp)).trans ((sne _ hne).trans hqx))⟩
          obtain ⟨o, q, rr⟩ := hst₂.1
          exact ⟨o, z₇.led _ _ ((hf s.heap.objs.size (by simp)).trans (by unfold sees; rw [if_pos (List.mem_singleton.mpr rfl)]; exact q)), rr⟩
        cases ok with
        | true =>
          simp only [if_true] at h₄ ⊢
          refine wpAny_mono h₄ (fun y s₅ h₅ => ?_) fun _ _ x => x.elim
          obtain ⟨h₅, tk₅, mC, lf, rfl, z₇, hj, hf⟩ := h₅
          have hlD : lf H1.objs.size = some (lstO ys) := (hf _ (by simp)).trans ((sne _ (Ne.symm hID)).trans hqD)
          refine append_at (hsz := by show ys.toArray.size ≤ sizeLine; rw [List.size_toArray]; exact Nat.le_trans (Nat.le_trans hyl hi) hsz) (z₇.led _ _ hlD) fun h₆ hs₆ hD₆ => ?_
          have z₈ := z₇.sameBut hlD (New.none hDb) hs₆ hD₆
          have hst₇ := stay _ _ _ z₇ hf
          refine ⟨items.size + 1 - (i + 1), by omega, h₆, tk₅, i + 1, ys ++ [y], mC, _, rfl, hlt, rfl, by rw [List.length_append, List.length_singleton]; exact Nat.succ_le_succ hyl, ⟨?_, z₈.isL ((upd_ne haxD).trans ((hf ax (by simp)).trans ((sne _ hne).trans hqx)))⟩, z₈, ?_, ?_, ?_, ?_, ?_⟩
          · obtain ⟨o, q, rr⟩ := hst₇.1
            exact ⟨o, hs₆.extBut _ _ hID q, rr⟩
          · exact (upd_ne (Ne.symm hDL)).trans ((hf L (by simp)).trans ((sne _ (Ne.symm hIL)).trans hqL))
          · exact upd_self.trans (congrArg some (LCg.lst_snoc ys y))
          · exact (upd_ne haxD).trans ((hf ax (by simp)).trans ((sne _ hne).trans hqx))
          · rw [upd_ne hID, hf _ (by simp)]; exact sI
          · exact hJ _ _ hI0 hD0 _ _ _ _ hj fun a _ ha _ => upd_ne ha
        | false =>
          simp only [Bool.false_eq_true, if_false] at h₄ ⊢
          obtain ⟨h₅, tk₅, mC, lf, rfl, z₇, hj, hf⟩ := h₄
          exact ⟨items.size + 1 - (i + 1), by omega, h₅, tk₅, i + 1, ys, mC, lf, rfl, hlt, rfl, Nat.le_succ_of_le hyl, stay _ _ _ z₇ hf, z₇, (hf L (by simp)).trans ((sne _ (Ne.symm hIL)).trans hqL), (hf _ (by simp)).trans ((sne _ (Ne.symm hID)).trans hqD), (hf ax (by simp)).trans ((sne _ hne).trans hqx), by rw [hf _ (by simp)]; exact sI, hj⟩
      · obtain rfl : i = items.size := Nat.le_antisymm hi (Nat.not_lt.mp hlt)
        refine W.done _ _ _ hst' fun h₂ tk₂ hk₂ => ?_
        have z₅ := z'.sees hCI (fun a ha => by rw [List.mem_singleton.mp ha]; exact hIb) (fun a o q => hk₂ a o q)
        have sne : ∀ a, a ≠ s.heap.objs.size → sees [s.heap.objs.size] h₂ lq a = lq a := fun a ha => by unfold sees; rw [if_neg fun q => ha (List.mem_singleton.mp q)]
        have z₆ := z₅.back ((sne L (Ne.symm hIL)).trans hqL) hoL z.above (Heap.SameBut.refl _ _)
        have hLC : L ≠ H2.objs.size := fun q => by have := z.ns.lt; rw [q, hH2s, hH1s] at this; exact absurd this (Nat.not_lt.mpr (Nat.le_succ_of_le (Nat.le_succ _)))
        refine done s.heap.objs.size H1.objs.size H2.objs.size ys _ m' h₂ tk₂ hD0 hDb (hJ _ _ hI0 hD0 _ _ _ _ hJ' fun a ha _ haL => ?_) ?_ z₆ ?_ hLC z₅.ns
        · unfold off; rw [if_neg haL]; exact sne a ha
        · unfold off; rw [if_neg hDL]; exact (sne _ (Ne.symm hID)).trans hqD
        · unfold off; rw [if_neg (Ne.symm hLC)]; exact z₅.fr
    · have hlt := z.lt q
      rw [upd_ne (z.neL q), upd_ne (by rw [hH1s]; exact ne_of_lt2 hlt), upd_ne (ne_of_lt1 hlt)]
      exact q
  have hs0 : (h₁.IsListIter s.heap.objs.size ax 0 ∧ h₁.IsList ax items) := ⟨⟨_, z₄.led s.heap.objs.size _ ((upd_ne hIL).trans ((upd_ne hID).trans upd_self)), rfl, rfl⟩, z₄.isL ((upd_ne haxL).trans ((upd_ne haxD).trans ((upd_ne hne).trans hax)))⟩
  exact codeAny_compStart_list (lp _ rfl) (W.self 0 _ _ _ hs0 (lp _ rfl))

theorem Z.other {h' : Heap} {C : Addr} (z : Z b L m ld h) (hC : ld C = none) (hLC : L ≠ C) (hs : Heap.SameBut C h h') : Z b L m ld h' where
  ns := z.ns.sameBut hs hLC
  led := fun a o q => hs.extBut _ _ (fun e => by rw [e, hC] at q; cases q) (z.led _ _ q)
  fr := z.fr
  base := z.base
  above := z.above

theorem post_plain {D C : Addr} {lq : Ld} {h₁ : Heap} {mC : Loc} {tk : Nat} {Q : Value → Shared → Prop} (z : Z b L m lq h₁) (hC : lq C = none) (hLC : L ≠ C) (hns : h₁.Ns C mC) (h : ∀ h', Z b L m lq h' → Q (.ref D) { s with heap := h', toks := tk }) :
    compPost (model prog w) A E none Q (.ref D) C (.ok .next) { s with heap := h₁, toks := tk } := ⟨mC, hns, fun h' hs => h h' (z.other hC hLC hs)⟩

theorem post_use {y : Str} {py : Pos} {D C : Addr} {lq : Ld} {h₁ : Heap} {mC : Loc} {tk : Nat} {Q : Value → Shared → Prop} (e : EnvIs env sc L) (z : Z b L m lq h₁) (hC : lq C = none) (hLC : L ≠ C) (hns : h₁.Ns C mC)
    (h : ∀ h', Z b L (fun n => if n = y then some (.ref D) else m n) lq h' → Q .none { s with heap := h', toks := tk + 1 }) (hy : sc.names.lookup y = some .local := by rfl) :
    compPost (model prog w) A E (some (assign (.Name y py) env)) Q (.ref D) C (.ok .next) { s with heap := h₁, toks := tk } := by
  obtain ⟨oC, hoC, hno⟩ := LCg.ns_obj hns
  have hbC : ∀ a o, b.get? a = some o → a ≠ C := fun a o q e => by have := z.base a o q; rw [e, hC] at this; cases this
  have z₁ : Z b L m (upd lq C oC) h₁ := ⟨z.ns, fun a o q => by
      by_cases ha : a = C
      · subst ha; rw [upd_self] at q; cases q; exact hoC
      · rw [upd_ne ha] at q; exact z.led _ _ q, by rw [upd_ne hLC]; exact z.fr, fun a o q => by rw [upd_ne (hbC a o q)]; exact z.base _ _ q, z.above⟩
  show wpAny _ A (assign (.Name y py) env (.ref D)) _ E _
  refine wpAny_assign_Name (st_loc e z₁ (fun h₂ z₂ => ?_) hy)
  refine ⟨mC, hno.ns (z₂.led _ _ upd_self), fun h' hs => h h' ?_⟩
  have z₃ : Z b L (fun n => if n = y then some (.ref D) else m n) lq h₂ := z₂.mono (fun a o q => by rw [upd_ne (fun e => by rw [e, hC] at q; cases q)]; exact q) z.base
  exact z₃.other hC hLC hs
end
end Mine

namespace Mine

section
variable {prog : Program} {w : World} {A : Around} {E : Value → Shared → Prop} {s : Shared} {K : Frag} {mg mb : Str → Option Value} {b : Heap} {L : Addr} {m : Str → Option Value} {ld : Ld} {env : Env} {sc : Scope} {h : Heap}

theorem lc {elt iter : Expr} {ifs : List Expr} {target : Expr} {scope : Scope} {cl cells : List (Str × Addr)} {pos : Pos} {Q : Value → Shared → Prop} (hcs : env.cells = cells) (hclos : closL cells scope.names [] = some cl)
    (h : wpAny (model prog w) A (eval iter env) (fun v s₁ => wpAny (model prog w) A (pyIter v) (fun it s₂ => wpAny (model prog w) A (newList []) (fun acc s₃ => wpAny (model prog w) A (newFunctionEnv scope env.globals cl [] env.qual none .none (some env)) (fun cenv s₄ =>
      codeAny (model prog w) A (.compStart (.ListComp elt [⟨target, iter, ifs, 0⟩] scope pos) 0 it acc { cenv with scope := relabel scope env }) (compPost (model prog w) A E none Q acc cenv.locals) s₄) E s₃) E s₂) E s₁) E s)
    (hs : ∀ x, foldedSetIterable iter env x = pure x := by intro _; rfl) (hkind : scope.kind = .function := by rfl)
    (hnames : (scope.names.all fun y => decide (y.2 = .local → scope.names.lookup y.1 = some .local)) = true := by rfl) :
    wpAny (model prog w) A (eval (.ListComp elt [⟨target, iter, ifs, 0⟩] scope pos) env) Q E s := by
  rw [eval_ListComp]
  exact wpAny_comprehension_free (use := none) rfl hs (closureFor_of hcs hclos) hkind (fun y hy => of_decide_eq_true (List.all_eq_true.mp hnames y hy)) h

theorem lm_append {l : Addr} {its : Array Value} {n : Nat} {pl : Sem Bool} {Q : Value × List Value → Shared → Prop} (z : Z b L m ld s.heap) (hl : ld l = some (listOf its n)) (h : Q (.builtin "list.append", [.ref l]) s) :
    wpAny (model prog w) A (getMethod (.ref l) "append" pl) Q E s := getMethod_list_append (z.led _ _ hl) rfl rfl h

theorem l_append {l : Addr} {vs : List Value} {n : Nat} {v : Value} {Q : Value → Shared → Prop} (z : Z b L m ld s.heap) (hl : ld l = some (listOf vs.toArray n)) (hn : New b l) (hsz : vs.length ≤ 10000)
    (h : ∀ h', Z b L m (upd ld l (listOf (vs ++ [v]).toArray (n + 1))) h' → Q .none { s with heap := h' }) : wpAny (model prog w) A (call (.builtin "list.append") [.ref l, v]) Q E s := by
  refine append_at (hsz := by rw [List.size_toArray, PySem.sizeLine_eq]; omega) (z.led _ _ hl) fun h' hs' e' => h h' ?_
  have := z.sameBut hl (New.none hn) hs' e'
  rwa [show (vs.toArray.push v) = (vs ++ [v]).toArray by simp] at this

theorem swaps_true {elt : Expr} {gens : List Comprehension} {scope : Scope} {pos : Pos} {y : Str} {py : Pos} {n : Nat} (e : EnvIs env sc L) (hy : sc.names.lookup y = some .local) (hl : (py.line == pos.line) = true)
    (hn : (!(scope.names.any fun x => x.1 == y && (x.2 == .local || x.2 == .cell))) = true) : swapsWith (.ListComp elt gens scope pos) (some (.Name y py)) n env = pure true := by
  show (pure (env.blockKind == .function && env.kindOf y == some .local && py.line == pos.line && !(scope.names.any fun (n, k) => n == y && (k == .local || k == .cell))) : Sem Bool) = pure true
  rw [e.block, e.kindOf hy, hl, hn]; rfl

/-- y = [.. for .. in ..] in one line, y a local name -/
theorem as_lc {elt iter : Expr} {ifs : List Expr} {target : Expr} {scope : Scope} {cl cells : List (Str × Addr)} {pos spos py : Pos} {y : Str} {Q : Flow → Shared → Prop} (e : EnvIs env sc L) (hcs : env.cells = cells) (hclos : closL cells scope.names [] = some cl)
    (h : wpAny (model prog w) A (eval iter env) (fun v s₁ => wpAny (model prog w) A (pyIter v) (fun it s₂ => wpAny (model prog w) A (newList []) (fun acc s₃ => wpAny (model prog w) A (newFunctionEnv scope env.globals cl [] env.qual none .none (some env)) (fun cenv s₄ =>
      codeAny (model prog w) A (.compStart (.ListComp elt [⟨target, iter, ifs, 0⟩] scope pos) 0 it acc { cenv with scope := relabel scope env }) (compPost (model prog w) A E (some (assign (.Name y py) env)) (fun _ s' => Q .next s') acc cenv.locals) s₄) E s₃) E s₂) E s₁) E s)
    (hy : sc.names.lookup y = some .local := by rfl) (hl : (py.line == pos.line) = true := by rfl) (hn : (!(scope.names.any fun x => x.1 == y && (x.2 == .local || x.2 == .cell))) = true := by rfl)
    (hs : ∀ x, foldedSetIterable iter env x = pure x := by intro _; rfl) (hkind : scope.kind = .function := by rfl)
    (hnames : (scope.names.all fun y => decide (y.2 = .local → scope.names.lookup y.1 = some .local)) = true := by rfl) :
    wpAny (model prog w) A (exec (.Assign [.Name y py] (.ListComp elt [⟨target, iter, ifs, 0⟩] scope pos) spos) env) Q E s := by
  rw [exec_Assign_Name_used _ _ _ _ (swaps_true e hy hl hn)]
  refine wpAny_bind (wpAny_standAt (wpAny_bind ?_))
  show wpAny _ A (do let _ ← comprehension (.ListComp elt [⟨target, iter, ifs, 0⟩] scope pos) scope env _ (newList []) false (eval iter env) (some (assign (.Name y py) env))) _ _ s
  exact wpAny_bind (wpAny_mono (wpAny_comprehension_free (Q := fun _ s' => Q .next s') (use := some (assign (.Name y py) env)) rfl hs (closureFor_of hcs hclos) hkind (fun y hy => of_decide_eq_true (List.all_eq_true.mp hnames y hy)) h) (fun _ s' hq => wpAny_pure (wpAny_pure hq)) fun _ _ e => e)

/-- [x for x in ints if p] -/
theorem lc_filter {iter ct : Expr} {x : Str} {px pe : Pos} {scope : Scope} {cl : List (Str × Addr)} {pos : Pos} {RR : Value → Addr → Result → Shared → Prop} {ax : Addr} {vs : List Value} {ns : List Int} {ep mm : Nat} (p : Int → Bool) (r : Room A mm) (e : EnvIs env sc L)
    (z : Z b L m ld s.heap) (hax : ld ax = some (listOf vs.toArray ep)) (hi : IntsAre vs ns) (hsz : vs.length ≤ 10000)
    (test : ∀ C k t (m₁ : Loc) lq h₁ tk₁, (∀ a o, ld a = some o → lq a = some o) → k ∈ ns → EnvIs (compEnvC scope cl C env) (relab scope sc) C → Z b C (fun y => if y = x then some (.int k t) else m₁ y) lq h₁ →
      wpAny (model prog w) A (isTrue ct (compEnvC scope cl C env) (eval ct (compEnvC scope cl C env))) (fun ok s' => ok = p k ∧ ∃ h₂ tk₂, s' = { s with heap := h₂, toks := tk₂ } ∧ Z b C (fun y => if y = x then some (.int k t) else m₁ y) lq h₂) (fun _ _ => False) { s with heap := h₁, toks := tk₁ })
    (done : ∀ D C ys lq mC h₁ tk₁, ld D = none → New b D → (∀ a o, ld a = some o → lq a = some o) → IntsAre ys (ns.filter p) → lq D = some (lstO ys) → Z b L m lq h₁ → lq C = none → L ≠ C → h₁.Ns C mC → RR (.ref D) C (.ok .next) { s with heap := h₁, toks := tk₁ })
    (hx : scope.names.lookup x = some .local := by rfl) (hkind : scope.kind = .function := by rfl) (hcell : (scope.names.all fun x => decide (x.2 ≠ .cell)) = true := by rfl) (hd : (x == ("__debug__" : Str)) = false := by decide) :
    wpAny (model prog w) A (pyIter (.ref ax)) (fun it s₂ => wpAny (model prog w) A (newList []) (fun acc s₃ => wpAny (model prog w) A (newFunctionEnv scope env.globals cl [] env.qual none .none (some env)) (fun cenv s₄ =>
      codeAny (model prog w) A (.compStart (.ListComp (.Name x pe) [⟨.Name x px, iter, [ct], 0⟩] scope pos) 0 it acc { cenv with scope := relabel scope env }) (RR acc cenv.locals) s₄) E s₃) E s₂) E s := by
  refine lc_list r e z hax (by rw [List.size_toArray, PySem.sizeLine_eq]; omega) (fun _ _ i ys l => (∀ a o, ld a = some o → l a = some o) ∧ IntsAre ys ((ns.take i).filter p)) ?_ ?_ ?_ ?_ hx hkind hcell
  · intro _ _ ld₁ _ _ q; exact ⟨q, .nil⟩
  · rintro I D hI hD i ys l l' ⟨q1, q2⟩ q3
    refine ⟨fun a o q => ?_, q2⟩
    rw [q3 a (fun e => by rw [e, hI] at q; cases q) (fun e => by rw [e, hD] at q; cases q) (z.neL q)]; exact q1 a o q
  · rintro I C D i v ys m₁ lq h₁ tk₁ hI hD hC hv ⟨q1, q2⟩ hqx hqI hqD hqL eC z₁
    obtain ⟨k, t, rfl, hk⟩ := IntsAre.at hi i v (by simpa using hv)
    refine wpAny_tests_one (wpAny_mono (test C k t m₁ lq h₁ tk₁ q1 (List.mem_of_getElem? hk) eC z₁) (fun ok s' q => ?_) fun _ _ x => x)
    obtain ⟨rfl, h₂, tk₂, rfl, z₂⟩ := q
    have htk : ns.take (i + 1) = ns.take i ++ [k] := by rw [List.take_add_one, hk]; rfl
    cases hp : p k with
    | true =>
      rw [if_pos rfl]
      refine ev_loc eC z₂ (v := .int k t) (if_pos rfl) ?_ (lookup_relabel_local hx) hd
      refine ⟨h₂, tk₂, _, lq, rfl, z₂, ⟨q1, ?_⟩, fun _ _ => rfl⟩
      rw [htk, List.filter_append]
      refine IntsAre.append q2 ?_
      rw [List.filter_cons_of_pos hp]; exact .cons _ _ .nil
    | false =>
      rw [if_neg (by simp)]
      refine ⟨h₂, tk₂, _, lq, rfl, z₂, ⟨q1, ?_⟩, fun _ _ => rfl⟩
      rw [htk, List.filter_append, List.filter_cons_of_neg (by simp [hp]), List.filter_nil, List.append_nil]; exact q2
  · rintro _ D C ys lq mC h₁ tk₁ hD hDn ⟨q1, q2⟩ hqD z₁ hC hLC hns
    rw [List.size_toArray, hi.length, List.take_length] at q2
    exact done D C ys lq mC h₁ tk₁ hD hDn q1 q2 hqD z₁ hC hLC hns
end
end Mine

namespace Mine

section
variable {prog : Program} {w : World} {A : Around} {E : Value → Shared → Prop} {s : Shared} {K : Frag} {mg mb : Str → Option Value} {b : Heap} {L : Addr} {m : Str → Option Value} {ld : Ld} {env : Env} {sc : Scope} {h : Heap}

theorem ev_nil {pos : Pos} {Q : Value → Shared → Prop} (z : Z b L m ld s.heap)
    (h : ∀ D h', ld D = none → New b D → Z b L m (upd ld D (lstO [])) h' → Q (.ref D) { s with heap := h' }) : wpAny (model prog w) A (eval (.List [] pos) env) Q E s :=
  wpAny_List (args_nil ⟨Nat.zero_le _, h _ _ z.size_none z.bs.size (z.push (lstO []))⟩)

theorem upd_old {a D : Addr} {o o' : Obj} (hD : ld D = none) (ha : ld a = some o) : upd ld D o' a = some o := by
  rw [upd_ne fun e => by rw [e, hD] at ha; cases ha]; exact ha

end
end Mine

namespace Mine

section
variable {w : World} {A : Around} {E : Value → Shared → Prop} {s : Shared} {mg mb : Str → Option Value} {b : Heap}

theorem dedup_snoc (ns : List Int) (k : Int) : dedup (ns ++ [k]) = if k ∈ dedup ns then dedup ns else dedup ns ++ [k] := by
  unfold dedup; rw [List.foldl_append]; rfl
theorem dedup_len (ns : List Int) : (dedup ns).length ≤ ns.length := by
  have : ∀ (ns acc : List Int), (ns.foldl (fun acc k => if k ∈ acc then acc else acc ++ [k]) acc).length ≤ acc.length + ns.length := fun ns => by
    induction ns with
    | nil => intro acc; exact Nat.le_refl _
    | cons k ns ih =>
      intro acc
      refine Nat.le_trans (ih _) ?_
      dsimp only
      split
      · simp only [List.length_cons]; omega
      · simp only [List.length_append, List.length_cons, List.length_nil]; omega
  have q := this ns []
  rw [List.length_nil, Nat.zero_add] at q
  exact q

set_option maxHeartbeats 2000000 in
theorem once_spec {l : Addr} {vs : List Value} {ns : List Int} {n : Nat} {Q : Value → Shared → Prop}
    (C : Cx (KK w) mg mb b) (hB : Bs b s.heap) (r : Room A 1) (hl : s.heap.get? l = some (listOf vs.toArray n)) (hi : IntsAre vs ns) (hns : ns.length ≤ 1000)
    (h : ∀ h' tk D ys ld', Led ld' h' → (∀ a o, s.heap.get? a = some o → ld' a = some o) → s.heap.get? D = none → New b D → ld' D = some (lstO ys) → IntsAre ys (dedup ns) → Q (.ref D) { s with heap := h', toks := tk }) :
    wpAny (model PP w) A (call (.ref 274) [.ref l]) Q E s := by
  refine enter (n := 0) C hB r rfl rfl rfl (BindsTo.of_eq rfl) rfl rfl rfl rfl rfl rfl rfl rfl ?_
  intro A' env L h₁ tk r' e z
  dsimp only at e
  refine wpAny_execs_cons (wpAny_Assign_Name (ev_nil z fun D h₂ hD hDn z => st_loc e z fun h₃ z => ?_))
  dsimp only at e ⊢
  have hlD : upd s.heap.get? D (lstO []) l = some (listOf vs.toArray n) := upd_old hD hl
  refine wpAny_execs_cons (wpAny_For (ev_loc e z rfl ?_) (by intro _; rfl))
  refine iter_list r' e z hlD (fun i m l' => m "once" = some (.ref D) ∧ (∀ a o, s.heap.get? a = some o → l' a = some o) ∧ ∃ ys, l' D = some (lstO ys) ∧ IntsAre ys (dedup (ns.take i))) ?_ ?_ ?_ ?_
  · intro ld₁ q
    exact ⟨rfl, fun a o qa => q a o (upd_old hD qa), [], q _ _ upd_self, .nil⟩
  · rintro I hI i m₁ l₁ l₂ ⟨q1, q2, ys, q3, q4⟩ q5
    refine ⟨q1, fun a o qa => ?_, ys, ?_, q4⟩
    · rw [q5 a (fun e => by rw [e] at qa; have := upd_old (o' := lstO []) hD qa; rw [hI] at this; cases this)]; exact q2 a o qa
    · rw [q5 D (fun e => by rw [← e, upd_self] at hI; cases hI)]; exact q3
  · rintro I oI i v m₁ lq h₄ tk₄ hI hqI hv ⟨q1, q2, ys, q3, q4⟩ hqx z
    obtain ⟨k, t, rfl, hk⟩ := IntsAre.at hi i v (by simpa using hv)
    have htk : ns.take (i + 1) = ns.take i ++ [k] := by rw [List.take_add_one, hk]; rfl
    have hm1 : (if ("once" : Str) = "one" then some (Value.int k t) else m₁ "once") = some (.ref D) := q1
    have hID : D ≠ I := fun e => by rw [← e, upd_self] at hI; cases hI
    have hlne : D ≠ l := fun e => by rw [e, hl] at hD; cases hD
    refine wpAny_execs_cons (wpAny_If (wpAny_isTrue_Compare1 (ev_loc e z rfl (ev_loc e z hm1 (notin_ints z q3 q4 (wpAny_truthy_bool ?_))))))
    by_cases hin : k ∈ dedup (ns.take i)
    · rw [if_neg (by simp [hin])]
      refine wpAny_execs_nil (wpAny_execs_nil ⟨_, _, _, lq, rfl, z, ⟨hm1, q2, ys, q3, ?_⟩, fun _ _ => rfl⟩)
      rw [htk, dedup_snoc, if_pos hin]; exact q4
    · rw [if_pos (by simp [hin])]
      refine wpAny_execs_cons (ex_flat e (MethodCall_ (ev_loc e z hm1 (lm_append z q3 ?_))))
      refine callWith_method1 (args_cons (ev_loc e z rfl (args_nil ?_)))
      refine l_append z q3 hDn (by rw [q4.length]; exact Nat.le_trans (dedup_len _) (by rw [List.length_take]; omega)) fun h₅ z => ⟨fun _ q => (nomatch q), ?_⟩
      refine wpAny_execs_nil (wpAny_execs_nil ⟨_, _, _, _, rfl, z, ⟨hm1, fun a o qa => ?_, ys ++ [.int k t], ?_, ?_⟩, fun a ha => ?_⟩)
      · rw [upd_ne (fun e => by rw [e, hD] at qa; cases qa)]; exact q2 a o qa
      · rw [upd_self, lstO, List.length_append]; rfl
      · rw [htk, dedup_snoc, if_neg hin]; exact q4.append (.cons _ _ .nil)
      · simp only [List.mem_cons, List.not_mem_nil, or_false] at ha
        rcases ha with rfl | rfl
        · exact upd_ne (Ne.symm hID)
        · exact upd_ne (Ne.symm hlne)
  · rintro m₁ lq h₄ tk₄ ⟨q1, q2, ys, q3, q4⟩ z
    refine wpAny_execs_cons (wpAny_Return_some (ev_loc e z q1 ?_))
    rw [List.size_toArray, hi.length, List.take_length] at q4
    exact h h₄ tk₄ D ys lq z.led q2 hD hDn q3 q4
end
end Mine

namespace Mine

def Wish (ns : List Int) : Prop := ∀ k ∈ ns, k ≠ 0 ∧ -9 ≤ k ∧ k ≤ 9
/-- lists of ints at ps -/
def Rows2 (ld : Ld) (ps : List Addr) (nss : List (List Int)) : Prop := ps.length = nss.length ∧ ∀ (i : Nat) p ns, ps[i]? = some p → nss[i]? = some ns → ∃ ys, ld p = some (lstO ys) ∧ IntsAre ys ns

section
variable {w : World} {A : Around} {E : Value → Shared → Prop} {s : Shared} {mg mb : Str → Option Value} {b : Heap}

theorem Rows2.mono {ld ld' : Ld} {ps : List Addr} {nss : List (List Int)} (x : Rows2 ld ps nss) (h : ∀ p ∈ ps, ∀ o, ld p = some o → ld' p = some o) : Rows2 ld' ps nss :=
  ⟨x.1, fun i p ns h1 h2 => let ⟨ys, e1, e2⟩ := x.2 i p ns h1 h2; ⟨ys, h p (List.mem_of_getElem? h1) _ e1, e2⟩⟩
theorem Rows2.has {ld : Ld} {ps : List Addr} {nss : List (List Int)} (x : Rows2 ld ps nss) {p : Addr} (hp : p ∈ ps) : ∃ ys, ld p = some (lstO ys) := by
  obtain ⟨i, hi⟩ := List.getElem?_of_mem hp
  have hlt : i < nss.length := by rw [← x.1]; exact (List.getElem?_eq_some_iff.mp hi).1
  obtain ⟨ys, h, _⟩ := x.2 i p nss[i] hi (List.getElem?_eq_getElem hlt)
  exact ⟨ys, h⟩
theorem Rows2.snoc {ld : Ld} {ps : List Addr} {nss : List (List Int)} (x : Rows2 ld ps nss) {p : Addr} {ns : List Int} {ys : List Value} (h : ld p = some (lstO ys)) (hi : IntsAre ys ns) : Rows2 ld (ps ++ [p]) (nss ++ [ns]) := by
  refine ⟨by rw [List.length_append, List.length_append, x.1]; rfl, fun i q ms h1 h2 => ?_⟩
  rcases Nat.lt_trichotomy i ps.length with hl | hl | hl
  · rw [List.getElem?_append_left hl] at h1
    rw [List.getElem?_append_left (by rw [← x.1]; exact hl)] at h2
    exact x.2 i q ms h1 h2
  · subst hl
    rw [List.getElem?_concat_length] at h1
    rw [x.1, List.getElem?_concat_length] at h2
    cases h1; cases h2; exact ⟨ys, h, hi⟩
  · rw [List.getElem?_eq_none (by rw [List.length_append]; exact hl)] at h1; cases h1

set_option maxHeartbeats 4000000 in
theorem pool_spec {l : Addr} {vs : List Value} {ns : List Int} {n : Nat} {Q : Value → Shared → Prop}
    (C : Cx (KK w) mg mb b) (hB : Bs b s.heap) (r : Room A 1) (hl : s.heap.get? l = some (listOf vs.toArray n)) (hi : IntsAre vs ns) (h0 : ns ≠ []) (hns : ns.length ≤ 100)
    (h : ∀ h' tk D ps nss ld', Led ld' h' → (∀ a o, s.heap.get? a = some o → ld' a = some o) → s.heap.get? D = none → New b D → ld' D = some (lstO (ps.map .ref)) → Rows2 ld' ps nss → ps.length = 4 →
      (∀ ms ∈ nss, Wish ms ∧ ms.length ≤ 5) → Q (.ref D) { s with heap := h', toks := tk }) :
    wpAny (model PP w) A (call (.ref 267) [.ref l]) Q E s := by
  refine enter (n := 0) C hB r rfl rfl rfl (BindsTo.of_eq rfl) rfl rfl rfl rfl rfl rfl rfl rfl ?_
  intro A' env L h₁ tk r' e z
  dsimp only at e
  have hlen : 0 < ns.length := List.length_pos_iff.mpr h0
  refine wpAny_execs_cons (wpAny_Assign_Name (ev_nil z fun D h₂ hD hDn z => st_loc e z fun h₃ z => ?_))
  dsimp only
  refine wpAny_execs_cons (wpAny_For (Call_ (ev_bi e C z rfl boot_range (Pv.callWith_type1 (args_cons (wpAny_Constant_int (args_nil ?_)))))) (by intro _; rfl))
  refine iter_rangeI r' e z (n := 4) rfl (by decide) (fun I i m l' => m "pool" = some (.ref D) ∧ m "numbers" = some (.ref l) ∧ (∀ a o, s.heap.get? a = some o → l' a = some o) ∧
    ∃ ps nss, l' D = some (lstO (ps.map .ref)) ∧ Rows2 l' ps nss ∧ D ∉ ps ∧ I ∉ ps ∧ ps.length = i ∧ ∀ ms ∈ nss, Wish ms ∧ ms.length ≤ 5) ?_ ?_ ?_ ?_
  · intro I ld₁ _ q
    exact ⟨rfl, rfl, fun a o qa => q a o (upd_old hD qa), [], [], q _ _ upd_self, ⟨rfl, fun _ _ _ h => by simp at h⟩, by simp, by simp, rfl, by simp⟩
  · rintro I hI i m₁ l₁ l₂ ⟨q1, q2, q3, ps, nss, q4, q5, q6, q6', q7, q8⟩ q9
    refine ⟨q1, q2, fun a o qa => ?_, ps, nss, ?_, q5.mono fun p hp o qo => ?_, q6, q6', q7, q8⟩
    · rw [q9 a (fun e => by rw [e] at qa; have := upd_old (o' := lstO []) hD qa; rw [hI] at this; cases this)]; exact q3 a o qa
    · rw [q9 D (fun e => by rw [← e, upd_self] at hI; cases hI)]; exact q4
    · rw [q9 p (fun e => q6' (e ▸ hp))]; exact qo
  · rintro I oI i t m₁ lq h₄ tk₄ hI hqI hi4 ⟨q1, q2, q3, ps, nss, q4, q5, q6, q6', q7, q8⟩ z
    have hlq := q3 _ _ hl
    have hsz : vs.toArray.size = ns.length := by rw [List.size_toArray, hi.length]
    have hm2 : (if ("numbers" : Str) = "place" then some (Value.int i t) else m₁ "numbers") = some (.ref l) := q2
    -- code
    refine wpAny_execs_cons (wpAny_Assign_Name (wpAny_BinOp (wpAny_BinOp (Subscript_ (ev_loc e z hm2 (wpAny_BinOp (ev_loc e z rfl ?_)))))))
    refine Call_ (ev_bi e C z rfl boot_len (PyProof.Rows.callWith_builtin1 (args_cons (ev_loc e z hm2 (args_nil ?_)))))
    refine call_len_list (z.isList hlq) (by rw [hsz]; omega) ?_
    refine mod_int' (by rw [hsz]; omega) ?_
    have hf0 : (0 : Int) ≤ (i : Int).fmod (vs.toArray.size : Int) := Int.fmod_nonneg_of_pos _ (by rw [hsz]; omega)
    have hf1 : (i : Int).fmod (vs.toArray.size : Int) < ns.length := by have := Int.fmod_lt_of_pos (i : Int) (b := (vs.toArray.size : Int)) (by rw [hsz]; omega); rw [hsz] at this ⊢; exact this
    obtain ⟨v, hv⟩ : ∃ v, ns[((i : Int).fmod (vs.toArray.size : Int)).toNat]? = some v := ⟨_, List.getElem?_eq_getElem (by omega)⟩
    refine it_int z hlq hi hv hf0 (by omega) fun t1 => ?_
    refine wpAny_BinOp (wpAny_Constant_int (ev_loc e z rfl (mul_int (add_int ?_))))
    refine wpAny_Constant_int (mod_int' (by decide) (st_loc e z fun h₅ z => ?_))
    -- wishes
    refine wpAny_execs_cons (wpAny_Assign_Name (ev_nil z fun W h₆ hW hWn z => st_loc e z fun h₇ z => ?_))
    dsimp only
    have hWI : W ≠ I := fun e => by rw [e, hqI] at hW; cases hW
    have hWD : W ≠ D := fun e => by rw [e, q4] at hW; cases hW
    -- for step in range(place + 2)
    refine wpAny_execs_cons (wpAny_For (Call_ (ev_bi e C z rfl boot_range (Pv.callWith_type1 ?_))) (by intro _; rfl))
    refine args_cons (wpAny_BinOp (ev_loc e z rfl (wpAny_Constant_int (add_int (args_nil ?_)))))
    refine iter_range r' e z (n := i + 2) (by omega) (by omega) (fun j m l' => m "pool" = some (.ref D) ∧ m "numbers" = some (.ref l) ∧ m "wishes" = some (.ref W) ∧ (∃ c u, m "code" = some (.int c u)) ∧ (∀ a o, lq a = some o → l' a = some o) ∧
      ∃ ys ks, l' W = some (lstO ys) ∧ IntsAre ys ks ∧ ks.length = j ∧ Wish ks) ?_ ?_ ?_ ?_
    · intro ld₁ q
      exact ⟨q1, q2, rfl, ⟨_, _, rfl⟩, fun a o qa => q a o (upd_old hW qa), [], [], q _ _ upd_self, .nil, rfl, fun _ h => by simp at h⟩
    · rintro I' hI' j m₂ l₁ l₂ ⟨p1, p2, p3, p4, p5, ys, ks, p6, p7, p8, p9⟩ q9
      refine ⟨p1, p2, p3, p4, fun a o qa => ?_, ys, ks, ?_, p7, p8, p9⟩
      · rw [q9 a (fun e => by rw [e] at qa; have := upd_old (o' := lstO []) hW qa; rw [hI'] at this; cases this)]; exact p5 a o qa
      · rw [q9 W (fun e => by rw [← e, upd_self] at hI'; cases hI')]; exact p6
    · rintro I' oI' j t' m₂ lr h₈ tk₈ hI' hqI' hj ⟨p1, p2, p3, ⟨c, u, p4⟩, p5, ys, ks, p6, p7, p8, p9⟩ z
      have hm3 : (if ("code" : Str) = "step" then some (Value.int j t') else m₂ "code") = some (.int c u) := p4
      have hm4 : (if ("wishes" : Str) = "step" then some (Value.int j t') else m₂ "wishes") = some (.ref W) := p3
      refine wpAny_execs_cons (wpAny_Assign_Name (wpAny_BinOp (wpAny_BinOp (wpAny_BinOp (wpAny_BinOp (wpAny_BinOp (ev_loc e z hm3 ?_)))))))
      refine wpAny_Constant_int (mod_int' (by decide) (wpAny_Constant_int (floordiv_int (by decide) (wpAny_BinOp (wpAny_Constant_int (ev_loc e z rfl (mul_int (add_int ?_))))))))
      refine wpAny_Constant_int (mod_int' (by decide) (wpAny_Constant_int (add_int (st_loc e z fun h₉ z => ?_))))
      have a1 := Int.fmod_nonneg_of_pos ((c.fmod 10).fdiv 2 + 2 * (j : Int)) (b := 9) (by decide)
      have a2 := Int.fmod_lt_of_pos ((c.fmod 10).fdiv 2 + 2 * (j : Int)) (b := 9) (by decide)
      have hWI' : W ≠ I' := fun e => by rw [← e, upd_self] at hI'; cases hI'
      -- wishes.append(..)
      refine wpAny_execs_cons (wpAny_mono (Q := fun fl s' => fl = Flow.next ∧ ∃ k tk h tk' m, (k ≠ 0 ∧ -9 ≤ k ∧ k ≤ 9) ∧ s' = { s with heap := h, toks := tk' } ∧ Z b L m (upd lr W (listOf (ys ++ [Value.int k tk]).toArray (ys.length + 1))) h ∧
          m "pool" = some (.ref D) ∧ m "numbers" = some (.ref l) ∧ m "wishes" = some (.ref W) ∧ m "code" = some (.int c u)) ?_ ?_ fun _ _ x => x)
      · refine ex_flat e (MethodCall_ (ev_loc e z hm4 (lm_append z p6 ?_)))
        refine callWith_method1 (args_cons (wpAny_IfExp (wpAny_isTrue_Compare1 (wpAny_BinOp (ev_loc e z hm3 (wpAny_Constant_int (mod_int' (by decide) (wpAny_Constant_int (eq_int (wpAny_truthy_bool ?_))))))))))
        have hle : ys.length ≤ 10000 := by rw [p7.length]; omega
        split
        · refine ev_loc e z rfl (args_nil (l_append z p6 hWn hle fun h₁₀ z => ⟨fun _ q => (nomatch q), rfl, _, _, _, _, _, (by omega), rfl, z, p1, p2, p3, hm3⟩))
        · refine wpAny_UnaryOp (ev_loc e z rfl (neg_int (args_nil (l_append z p6 hWn hle fun h₁₀ z => ⟨fun _ q => (nomatch q), rfl, _, _, _, _, _, (by omega), rfl, z, p1, p2, p3, hm3⟩))))
      rintro fl s' ⟨rfl, k, tk, h₁₀, tk', m₃, hk, rfl, z, n1, n2, n3, n4⟩
      dsimp only
      refine wpAny_execs_cons (wpAny_Assign_Name (wpAny_BinOp (ev_loc e z n4 (wpAny_Constant_int (floordiv_int (by decide) (st_loc e z fun h₁₁ z => ?_))))))
      refine wpAny_execs_nil ⟨_, _, _, _, rfl, z, ⟨n1, n2, n3, ⟨_, _, rfl⟩, fun a o qa => ?_, ys ++ [.int k tk], ks ++ [k], ?_, p7.append (.cons _ _ .nil), by rw [List.length_append, p8]; rfl, fun k' hk' => ?_⟩, fun a ha => ?_⟩
      · rw [upd_ne (fun e => by rw [e, hW] at qa; cases qa)]; exact p5 a o qa
      · rw [upd_self, lstO, List.length_append]; rfl
      · rcases List.mem_append.mp hk' with h1 | h1
        · exact p9 k' h1
        · rw [List.mem_singleton.mp h1]; exact hk
      · rw [List.mem_singleton.mp ha]; exact upd_ne (Ne.symm hWI')
    · rintro m₂ lr h₈ tk₈ ⟨p1, p2, p3, p4, p5, ys, ks, p6, p7, p8, p9⟩ z
      have hDr := p5 _ _ q4
      refine wpAny_execs_cons (ex_flat e (MethodCall_ (ev_loc e z p1 (lm_append z hDr ?_))))
      refine callWith_method1 (args_cons (ev_loc e z p3 (args_nil (l_append z hDr hDn (by rw [List.length_map, q7]; omega) fun h₉ z => ⟨fun _ q => (nomatch q), ?_⟩))))
      have keep : ∀ a o, a ≠ D → lq a = some o → upd lr D (listOf (ps.map Value.ref ++ [Value.ref W]).toArray ((ps.map Value.ref).length + 1)) a = some o := fun a o ha qa => by rw [upd_ne ha]; exact p5 a o qa
      refine wpAny_execs_nil ⟨_, _, _, _, rfl, z, ⟨p1, p2, fun a o qa => keep a o (fun e => by rw [e, hD] at qa; cases qa) (q3 a o qa), ps ++ [W], nss ++ [ks], ?_, ?_, ?_, ?_, by rw [List.length_append, q7]; rfl, fun ms hms => ?_⟩, fun a ha => ?_⟩
      · rw [upd_self, lstO, List.map_append, List.length_append]; rfl
      · refine Rows2.snoc (q5.mono fun p hp o qo => keep p o (fun e => q6 (e ▸ hp)) qo) ((upd_ne hWD).trans p6) p7
      · intro hm
        rcases List.mem_append.mp hm with h1 | h1
        · exact q6 h1
        · exact hWD (List.mem_singleton.mp h1).symm
      · intro hm
        rcases List.mem_append.mp hm with h1 | h1
        · exact q6' h1
        · exact hWI (List.mem_singleton.mp h1).symm
      · rcases List.mem_append.mp hms with h1 | h1
        · exact q8 ms h1
        · rw [List.mem_singleton.mp h1]; exact ⟨p9, by omega⟩
      · rw [List.mem_singleton.mp ha, keep I oI (fun e => by rw [e, upd_self] at hI; cases hI) hqI]; exact hqI.symm
  · rintro m₁ lq h₄ tk₄ I ⟨q1, q2, q3, ps, nss, q4, q5, q6, q6', q7, q8⟩ z
    refine wpAny_execs_cons (wpAny_Return_some (ev_loc e z q1 ?_))
    exact h h₄ tk₄ D ps nss lq z.led q3 hD hDn q4 q5 q7 q8
end
end Mine

namespace Mine

section
variable {prog : Program} {w : World} {A : Around} {s : Shared} {K : Frag} {mg mb : Str → Option Value} {b : Heap} {L : Addr} {m : Str → Option Value} {ld : Ld} {env : Env} {sc : Scope}

theorem loopA {Q : Flow → Shared → Prop} {R : Result → Shared → Prop} {target : Expr} {body : List Stmt} {I : Addr} {fp wr : List Addr} {n : Nat} {P : Nat → Value → Prop} {St : Nat → Heap → Prop}
    (hQ : ∀ f s', Q f s' → R (.ok f) s')
    (W : Walks prog w A I fp wr n P St) (hgo : ∀ i (s' : Shared) v (Q' : Unit → Shared → Prop) (E' : Value → Shared → Prop), P i v → St (i + 1) s'.heap → Q' () s' → wpAny (model prog w) A (letOwnedTupleGo target (.ref I) v) Q' E' s')
    (hwb : ∀ a ∈ wr, b.get? a = none) (hL : L ∉ fp) (z : Z b L m ld s.heap) (hin : ∀ a ∈ fp, (ld a).isSome = true) (hall : ∀ i h, St i h → ∀ a ∈ wr, (h.get? a).isSome = true) (hst : St 0 s.heap)
    (J : Nat → Loc → Ld → Prop) (hJ : ∀ i m ld ld', J i m ld → (∀ a, a ∉ wr → ld' a = ld a) → J i m ld') (h0 : J 0 m ld)
    (turn : ∀ i v m₁ lq h₁ tk₁, i < n → P i v → J i m₁ lq → (∀ a ∈ fp, (lq a).isSome = true) → Z b L m₁ lq h₁ →
      wpAny (model prog w) A (assign target env v) (fun _ s₂ => wpAny (model prog w) A (execs body env) (TurnPost b L fp (J (i + 1)) lq s Q) (fun _ _ => False) s₂) (fun _ _ => False) { s with heap := h₁, toks := tk₁ })
    (done : ∀ m₁ lq h₁ tk₁, J n m₁ lq → Z b L m₁ lq h₁ → Q .next { s with heap := h₁, toks := tk₁ }) :
    codeAny (model prog w) A (.forLoop target (.ref I) body [] env) R s := by
  have hLw : L ∉ wr := fun h => hL (W.sub _ h)
  refine codeAny_forLoop_any
    (fun k s' => ∃ h' tk m' ld' i, s' = { s with heap := h', toks := tk } ∧ St i h' ∧ Z b L m' ld' h' ∧ (∀ a ∈ fp, (ld' a).isSome = true) ∧ J i m' ld' ∧ i ≤ n ∧ k = n + 1 - i) ?_ (n + 1)
    ⟨s.heap, s.toks, m, ld, 0, rfl, hst, z, hin, h0, Nat.zero_le _, rfl⟩
  rintro k s' ⟨h', tk, m', ld', i, rfl, hst', z', hin', hJ', hi, rfl⟩
  by_cases hlt : i < n
  · refine W.item i _ _ _ hlt hst' fun v h₁ tk₁ hP hst₁ hk₁ => ?_
    have z₁ := z'.sees hLw hwb (fun a o q => hk₁ a o q)
    refine hgo i _ v _ _ hP hst₁ ?_
    have hin₁ : ∀ a ∈ fp, (sees wr h₁ ld' a).isSome = true := fun a ha => by
      unfold sees
      split
      · exact hall _ _ hst₁ a (by assumption)
      · exact hin' a ha
    refine wpAny_mono (turn i v m' _ h₁ _ hlt hP (hJ _ _ _ _ hJ' fun a ha => by unfold sees; rw [if_neg ha]) hin₁ z₁) (fun _ s₂ h₂ => wpAny_mono h₂ (fun f s₃ h₃ => ?_) fun _ _ x => x.elim) fun _ _ x => x.elim
    have fin : TurnEnd b L fp (J (i + 1)) (sees wr h₁ ld') s s₃ → ∃ m, m < n + 1 - i ∧ ∃ h' tk m' ld' i, s₃ = { s with heap := h', toks := tk } ∧ St i h' ∧ Z b L m' ld' h' ∧ (∀ a ∈ fp, (ld' a).isSome = true) ∧ J i m' ld' ∧ i ≤ n ∧ m = n + 1 - i := by
      rintro ⟨h₄, tk₃, m₂, lf, rfl, z₃, hJ₃, hfp₃⟩
      refine ⟨n + 1 - (i + 1), by omega, h₄, tk₃, m₂, lf, i + 1, rfl, W.frame _ _ _ hst₁ fun a ha o q => ?_, z₃, fun a ha => by rw [hfp₃ a ha]; exact hin₁ a ha, hJ₃, hlt, rfl⟩
      have : sees wr h₁ ld' a = some o := by
        unfold sees
        split
        · exact q
        · rename_i hw
          obtain ⟨o', ho'⟩ := Option.isSome_iff_exists.mp (hin' a ha)
          have := hk₁ a o' hw (z'.led _ _ ho')
          rw [q] at this; cases this; exact ho'
      exact z₃.led _ _ ((hfp₃ a ha).trans this)
    cases f with
    | ret v => exact hQ _ _ h₃
    | brk => exact hQ _ _ h₃
    | next => exact fin h₃
    | cont => exact fin h₃
  · have hin : i = n := by omega
    subst hin
    refine W.done _ _ _ hst' fun h₁ tk₁ hk₁ => wpAny_execs_nil (hQ _ _ ?_)
    have z₁ := z'.sees hLw hwb (fun a o q => hk₁ a o q)
    exact done m' _ h₁ tk₁ (hJ _ _ _ _ hJ' fun a ha => by unfold sees; rw [if_neg ha]) z₁

abbrev tupO (ys : List Value) : Obj := { cls := .type "tuple", data := .seq ys.toArray }

theorem tup_end {vs : List Value} {Q : Value → Shared → Prop} (z : Z b L m ld s.heap) (hsz : vs.length ≤ 10000) (h : ∀ D h', ld D = none → New b D → Z b L m (upd ld D (tupO vs)) h' → Q (.ref D) { s with heap := h' }) :
    vs.length ≤ sizeLine ∧ Q (.ref s.heap.objs.size) { s with heap := s.heap.push { cls := .type "tuple", data := .seq vs.toArray } } :=
  ⟨by rw [PySem.sizeLine_eq]; omega, h _ _ z.size_none z.bs.size (z.push (tupO vs))⟩
theorem lst_end {vs : List Value} {Q : Value → Shared → Prop} (z : Z b L m ld s.heap) (hsz : vs.length ≤ 10000) (h : ∀ D h', ld D = none → New b D → Z b L m (upd ld D (listOf vs.toArray 0)) h' → Q (.ref D) { s with heap := h' }) :
    vs.length ≤ sizeLine ∧ Q (.ref s.heap.objs.size) { s with heap := s.heap.push { cls := .type "list", data := .seq vs.toArray } } :=
  ⟨by rw [PySem.sizeLine_eq]; omega, h _ _ z.size_none z.bs.size (z.push (listOf vs.toArray 0))⟩

theorem ev_tuple {elts : List Expr} {k : Nat} {pos : Pos} {E : Value → Shared → Prop} {Q : Value → Shared → Prop}
    (h : wpAny (model prog w) A (spliced (backTo pos (starEach elts env))) (fun vs s₁ => ∃ m ld, Z b L m ld s₁.heap ∧ vs.length ≤ 10000 ∧ ∀ D h', ld D = none → New b D → Z b L m (upd ld D (tupO vs)) h' → Q (.ref D) { s₁ with heap := h' }) E s) :
    wpAny (model prog w) A (eval (.Tuple elts k pos) env) Q E s := wpAny_Tuple (wpAny_mono h (fun _ _ ⟨_, _, z, hs, q⟩ => tup_end z hs q) fun _ _ x => x)
theorem ev_list {elts : List Expr} {pos : Pos} {E : Value → Shared → Prop} {Q : Value → Shared → Prop}
    (h : wpAny (model prog w) A (spliced (backTo pos (starEach elts env))) (fun vs s₁ => ∃ m ld, Z b L m ld s₁.heap ∧ vs.length ≤ 10000 ∧ ∀ D h', ld D = none → New b D → Z b L m (upd ld D (listOf vs.toArray 0)) h' → Q (.ref D) { s₁ with heap := h' }) E s) :
    wpAny (model prog w) A (eval (.List elts pos) env) Q E s := wpAny_List (wpAny_mono h (fun _ _ ⟨_, _, z, hs, q⟩ => lst_end z hs q) fun _ _ x => x)

theorem go_tupleiter {elts : List Expr} {x1} {pos : Pos} {I l : Addr} {v : Value} {i : Nat} {E : Value → Shared → Prop} {Q : Unit → Shared → Prop} (hit : s.heap.IsTupleIter I l i) (hQ : Q () s) :
    wpAny (model prog w) A (letOwnedTupleGo (.Tuple elts x1 pos) (.ref I) v) Q E s := by
  obtain ⟨o, ho, hc, hd⟩ := hit
  cases v with
  | ref T =>
    unfold letOwnedTupleGo
    refine wpAny_bind (wpAny_load ho ?_)
    rw [hc, hd]
    show wpAny _ A (if (["enumerate", "zip", "dict_itemiterator", "dict_reverseitemiterator", "odict_iterator", "itertools.zip_longest", "itertools.pairwise"].contains "tuple_iterator" &&
        (#[.ref l, .int i 0] : Array Value)[0]? == some (rawInt T)) = true then _ else _) Q E s
    rw [if_neg (by
      intro h
      rw [show (["enumerate", "zip", "dict_itemiterator", "dict_reverseitemiterator", "odict_iterator", "itertools.zip_longest", "itertools.pairwise"].contains "tuple_iterator") = false from by decide, Bool.false_and] at h
      cases h)]
    exact wpAny_pure hQ
  | _ => exact wpAny_pure hQ
theorem go_listiter {elts : List Expr} {x1} {pos : Pos} {I l : Addr} {v : Value} {i : Nat} {E : Value → Shared → Prop} {Q : Unit → Shared → Prop} (hit : s.heap.IsListIter I l i) (hQ : Q () s) :
    wpAny (model prog w) A (letOwnedTupleGo (.Tuple elts x1 pos) (.ref I) v) Q E s := by
  cases v with
  | ref T => exact wpAny_letOwnedTupleGo_listiter hit hQ
  | _ => exact wpAny_pure hQ

/-- for .. in a tuple, any target -/
theorem iter_tupleA {Q : Flow → Shared → Prop} {elts : List Expr} {x1} {tp : Pos} {body : List Stmt} {ax : Addr} {items : List Value} {mm : Nat} (r : Room A mm)
    (z : Z b L m ld s.heap) (hax : ld ax = some (tupO items))
    (J : Addr → Nat → Loc → Ld → Prop)
    (h0 : ∀ I ld₁, ld I = none → (∀ a o, ld a = some o → ld₁ a = some o) → J I 0 m ld₁)
    (hJ : ∀ I, ld I = none → ∀ i m ld ld', J I i m ld → (∀ a, a ≠ I → ld' a = ld a) → J I i m ld')
    (turn : ∀ I oI i v m₁ lq h₁ tk₁, ld I = none → lq I = some oI → items[i]? = some v → J I i m₁ lq → lq ax = some (tupO items) → Z b L m₁ lq h₁ →
      wpAny (model prog w) A (assign (.Tuple elts x1 tp) env v) (fun _ s₂ => wpAny (model prog w) A (execs body env) (TurnPost b L [I, ax] (J I (i + 1)) lq s Q) (fun _ _ => False) s₂) (fun _ _ => False) { s with heap := h₁, toks := tk₁ })
    (done : ∀ m₁ lq h₁ tk₁ I, J I items.length m₁ lq → Z b L m₁ lq h₁ → Q .next { s with heap := h₁, toks := tk₁ }) :
    wpAny (model prog w) A (pyIter (.ref ax)) (fun it s₂ => codeAny (model prog w) A (.forLoop (.Tuple elts x1 tp) it body [] env) (fun r s' => match r with | .ok f => Q f s' | .error e => cameBackBy (model prog w) A env (fun _ _ => False) e s') s₂) (fun _ _ => False) s := by
  have hl : Heap.IsTuple s.heap ax items.toArray := ⟨_, z.led _ _ hax, rfl, _, rfl⟩
  refine wpAny_pyIter_tuple hl ?_
  have hne : ax ≠ s.heap.objs.size := ne_of_lt1 (Heap.lt_size (z.led _ _ hax))
  have z₂ := z.push { cls := .type "tuple_iterator", data := .fields #[.ref ax, .int 0 0] }
  have hI0 : ld s.heap.objs.size = none := z.size_none
  have hIb : b.get? s.heap.objs.size = none := New.none (b := b) (z.bs.size)
  refine loopA (s := { s with heap := s.heap.push _ }) (fp := [s.heap.objs.size, ax]) (wr := [s.heap.objs.size]) (Q := Q) (fun f s' q => q) (Walks.tuple (prog := prog) (w := w) r.handled s.heap.objs.size ax hne items.toArray) ?_ ?_ ?_ z₂ ?_ ?_ ?_
    (fun i m ld => J s.heap.objs.size i m ld ∧ ld ax = some (tupO items)) ?_ ?_ ?_ ?_
  · intro i s' v Q' E' _ hst q; exact go_tupleiter hst.1 q
  · intro a ha; rw [List.mem_singleton.mp ha]; exact hIb
  · intro hm
    rcases List.mem_cons.mp hm with q | q
    · exact absurd z.ns.lt (by rw [q]; exact Nat.lt_irrefl _)
    · exact z.neL hax (List.mem_singleton.mp q).symm
  · intro a ha
    rcases List.mem_cons.mp ha with q | q
    · rw [q, upd_self]; rfl
    · rw [List.mem_singleton.mp q, upd_ne hne, hax]; rfl
  · rintro i h' ⟨⟨o, ho, _⟩, _⟩ a ha
    rw [List.mem_singleton.mp ha, ho]; rfl
  · exact ⟨⟨_, Heap.get?_push_size _ rfl, rfl, rfl⟩, ⟨_, Heap.get?_push_of_some _ (z.led _ _ hax), rfl, _, rfl⟩⟩
  · rintro i m₁ l₁ l₂ ⟨j1, j2⟩ hk
    exact ⟨hJ _ hI0 i m₁ l₁ l₂ j1 fun a ha => hk a (fun q => ha (List.mem_singleton.mp q)), (hk ax fun q => hne (List.mem_singleton.mp q)).trans j2⟩
  · refine ⟨h0 _ _ hI0 fun a o q => ?_, (upd_ne hne).trans hax⟩
    rw [upd_ne (ne_of_lt1 (Heap.lt_size (z.led _ _ q)))]; exact q
  · rintro i v m₁ lq h₂ tk₂ hi hv ⟨j1, j2⟩ hin z₃
    obtain ⟨oI, hoI⟩ := Option.isSome_iff_exists.mp (hin s.heap.objs.size (by simp))
    refine wpAny_mono (turn s.heap.objs.size oI i v m₁ lq h₂ tk₂ hI0 hoI (by simpa using hv) j1 j2 z₃) (fun _ s₂ h₂ => wpAny_mono h₂ (fun f s' q => ?_) fun _ _ x => x) fun _ _ x => x
    have fin : TurnEnd b L [s.heap.objs.size, ax] (J s.heap.objs.size (i + 1)) lq s s' → TurnEnd b L [s.heap.objs.size, ax] (fun m ld => J s.heap.objs.size (i + 1) m ld ∧ ld ax = some (tupO items)) lq s s' := by
      rintro ⟨h₃, tk₃, m₃, lf, rfl, z₄, hj, hf⟩
      exact ⟨h₃, tk₃, m₃, lf, rfl, z₄, ⟨hj, (hf ax (by simp)).trans j2⟩, hf⟩
    cases f with
    | ret v => exact q
    | brk => exact q
    | next => exact fin q
    | cont => exact fin q
  · rintro m₁ lq h₂ tk₂ ⟨j1, _⟩ z₃
    exact done m₁ lq h₂ tk₂ _ (by simpa using j1) z₃
end
end Mine

namespace Mine

section
variable {w : World} {A : Around} {E : Value → Shared → Prop} {s : Shared} {mg mb : Str → Option Value} {b : Heap}

theorem Room.in1 {n : Nat} (r : Room A (n + 1)) : Room A.in1 n := ⟨r.handled, by have := r.depth; show A.depth + n ≤ 900; omega, by have := r.units; show A.units + 1 + 10 * n ≤ 9000; omega⟩
theorem Room.unit64 {n : Nat} (r : Room A n) : A.units + 64 < cLine := by have := r.units; show A.units + 64 < 9900; omega

set_option maxHeartbeats 1000000 in
theorem cllen_spec {c d l : Addr} {v1 v2 : Value} {lits : List Int} {Q : Value → Shared → Prop}
    (C : Cx (KK w) mg mb b) (hB : Bs b s.heap) (r : Room A 1) (hc : Cl s.heap.get? c d l v1 v2 lits) (hlen : lits.length ≤ 1000)
    (h : ∀ h' tk t, Led s.heap.get? h' → Q (.int lits.length t) { s with heap := h', toks := tk }) :
    wpAny (model PP w) A (call (.ref 72) [.ref c]) Q E s := by
  refine enter (n := 0) C hB r rfl rfl rfl (BindsTo.of_eq rfl) rfl rfl rfl rfl rfl rfl rfl rfl ?_
  intro A' env L h₁ tk r' e z
  dsimp only at e
  obtain ⟨h1, h2, h3, t1, t2, t3, n, hd⟩ := hc.dict
  obtain ⟨vs, ln, hl, hi⟩ := hc.list
  refine wpAny_execs_cons (wpAny_Return_some (Call_ (ev_bi e C z rfl boot_len (PyProof.Rows.callWith_builtin1 (args_cons ?_)))))
  refine Attribute_Name_ (ev_loc e z rfl (ga_own C z hc.inst hd rfl rfl rfl rfl rfl (args_nil ?_)))
  refine call_len_list (z.isList hl) (by rw [List.size_toArray, hi.length]; omega) ?_
  rw [show (vs.toArray.size : Int) = lits.length by rw [List.size_toArray, hi.length]]
  exact h _ _ _ z.led

set_option maxHeartbeats 4000000 in
theorem seen_spec {c d l hl : Addr} {v1 v2 : Value} {x y : Int} {rest hs : List Int} {hvs : List Value} {hn : Nat} {Q : Value → Shared → Prop}
    (C : Cx (KK w) mg mb b) (hB : Bs b s.heap) (r : Room A 1) (hc : Cl s.heap.get? c d l v1 v2 (x :: y :: rest)) (hlen : rest.length ≤ 100)
    (hh : s.heap.get? hl = some (listOf hvs.toArray hn)) (hi : IntsAre hvs hs)
    (inv : (-x ∈ hs → y ∈ hs ∨ ∀ k ∈ rest, -k ∈ hs) ∧ (-y ∈ hs → x ∈ hs ∨ ∀ k ∈ rest, -k ∈ hs))
    (h : ∀ h' tk, Led s.heap.get? h' → Q (.bool true) { s with heap := h', toks := tk }) :
    wpAny (model PP w) A (call (.ref 284) [.ref c, .ref hl]) Q E s := by
  refine enterX (n := 0) C hB r rfl rfl rfl (BindsTo.of_eq rfl) rfl rfl rfl rfl rfl rfl rfl ?_
  intro A' env L ld h₁ tk r' e hcs hL hL0 z hk hcell _
  dsimp only at e hcs
  have hcs' : env.cells = [((("held" : Str), L + 1) : Str × Addr)] := hcs
  have hce : env.cells.lookup ("held" : Str) = some (L + 1) := by rw [hcs']; rfl
  obtain ⟨hcv, hc0, hcn⟩ := hcell "held" (L + 1) hce
  replace hcv : CellIs ld (L + 1) (some (.ref hl)) := hcv
  obtain ⟨h1, h2, h3, t1, t2, t3, n, hd⟩ := hc.dict
  obtain ⟨vs, ln, hli, hii⟩ := hc.list
  refine wpAny_execs_cons (wpAny_Assign_Name (Attribute_Name_ (ev_loc e z rfl (ga_own C z (hk _ _ hc.inst) (hk _ _ hd) rfl rfl rfl rfl rfl (st_loc e z fun h₂ z => ?_)))))
  have hvl : vs.length = rest.length + 2 := hii.length
  have hkl := hk _ _ hli
  have hkh := hk _ _ hh
  -- rest
  refine wpAny_execs_cons (as_lc e hcs' rfl (ev_from e z rfl hkl (by omega) fun a h₃ tk₃ ha z => ?_))
  refine lc_filter (fun k => decide (-k ∉ hs)) r' e z upd_self (hii.drop 2) (by rw [List.length_drop]; omega) ?_ ?_
  · rintro C' k t m₁ lq h₄ tk₄ hsub _ eC z'
    have q1 : CellIs lq (L + 1) (some (.ref hl)) := by obtain ⟨o, p1, p2⟩ := hcv; exact ⟨o, hsub _ _ (upd_old ha p1), p2⟩
    refine wpAny_isTrue_Compare1 (wpAny_UnaryOp (ev_loc eC z' rfl (neg_int (ev_cell eC rfl z' q1 (notin_ints z' (hsub _ _ (upd_old ha hkh)) hi (wpAny_truthy_bool ?_))))))
    exact ⟨rfl, _, _, rfl, z'⟩
  rintro D C' ys lq mC h₄ tk₄ hD hDn hsub hys hqD z hC' hLC hns
  refine post_use e z hC' hLC hns fun h₅ z => ?_
  dsimp only
  have hsub2 : ∀ a' o, ld a' = some o → lq a' = some o := fun a' o q => hsub _ _ (upd_old ha q)
  have hql := hsub2 _ _ hkl
  have hqh := hsub2 _ _ hkh
  have hqc : CellIs lq (L + 1) (some (.ref hl)) := by obtain ⟨o, p1, p2⟩ := hcv; exact ⟨o, hsub2 _ _ p1, p2⟩
  -- the pairs
  refine wpAny_execs_cons (wpAny_For (ev_tuple (b := b) (L := L) (args_cons (ev_tuple (b := b) (L := L) (args_cons ?_)))) (by intro _; rfl))
  refine Subscript_ (ev_loc e z rfl (wpAny_Constant_int (it_int z hql hii (v := x) rfl (by decide) (by decide) fun u1 => args_cons ?_)))
  refine Subscript_ (ev_loc e z rfl (wpAny_Constant_int (it_int z hql hii (v := y) rfl (by decide) (by decide) fun u2 => args_nil ⟨_, _, z, Nat.le_of_ble_eq_true rfl, fun T1 h₆ hT1 _ z => ?_⟩)))
  dsimp only
  refine args_cons (ev_tuple (b := b) (L := L) (args_cons ?_))
  have hql1 := upd_old (o' := tupO [.int x u1, .int y u2]) hT1 hql
  refine Subscript_ (ev_loc e z rfl (wpAny_Constant_int (it_int z hql1 hii (v := y) rfl (by decide) (by decide) fun u3 => args_cons ?_)))
  refine Subscript_ (ev_loc e z rfl (wpAny_Constant_int (it_int z hql1 hii (v := x) rfl (by decide) (by decide) fun u4 => args_nil ⟨_, _, z, Nat.le_of_ble_eq_true rfl, fun T2 h₇ hT2 _ z => ?_⟩)))
  dsimp only
  refine args_nil ⟨_, _, z, Nat.le_of_ble_eq_true rfl, fun T h₈ hT _ z => ?_⟩
  dsimp only
  have hz1 := upd_old (o' := tupO [.ref T1, .ref T2]) hT (upd_old (o' := tupO [.int y u3, .int x u4]) hT2 (upd_self (ld := lq) (a := T1) (o := tupO [.int x u1, .int y u2])))
  have hz2 := upd_old (o' := tupO [.ref T1, .ref T2]) hT (upd_self (ld := upd lq T1 (tupO [.int x u1, .int y u2])) (a := T2) (o := tupO [.int y u3, .int x u4]))
  have keep : ∀ a o, lq a = some o → upd (upd (upd lq T1 (tupO [.int x u1, .int y u2])) T2 (tupO [.int y u3, .int x u4])) T (tupO [.ref T1, .ref T2]) a = some o := fun a o q => upd_old hT (upd_old hT2 (upd_old hT1 q))
  generalize hlz : upd (upd (upd lq T1 (tupO [.int x u1, .int y u2])) T2 (tupO [.int y u3, .int x u4])) T (tupO [.ref T1, .ref T2]) = lz at z hz1 hz2 keep
  have hzT : lz T = some (tupO [.ref T1, .ref T2]) := by rw [← hlz]; exact upd_self
  refine iter_tupleA r' z hzT (fun I i m l' => m "rest" = some (.ref D) ∧ (∀ a o, lz a = some o → l' a = some o)) ?_ ?_ ?_ ?_
  · intro I ld₁ _ q; exact ⟨rfl, q⟩
  · rintro I hI i m₁ l₁ l₂ ⟨q1, q2⟩ q3
    exact ⟨q1, fun a o q => by rw [q3 a fun e => by rw [e, hI] at q; cases q]; exact q2 a o q⟩
  · rintro I oI i v m₁ lr h₉ tk₉ hI hrI hv ⟨q1, q2⟩ hrT z
    have hIT : T ≠ I := fun e => by rw [e, hI] at hzT; cases hzT
    obtain ⟨p, q, u, u', T', rfl, hT', hpq⟩ : ∃ p q u u' T', v = .ref T' ∧ lr T' = some (tupO [.int p u, .int q u']) ∧ (-p ∈ hs → q ∈ hs ∨ ∀ k ∈ rest, -k ∈ hs) := by
      rcases i with _ | _ | i
      · cases hv; exact ⟨x, y, u1, u2, T1, rfl, q2 _ _ hz1, inv.1⟩
      · cases hv; exact ⟨y, x, u3, u4, T2, rfl, q2 _ _ hz2, inv.2⟩
      · simp at hv
    have hrh := q2 _ _ (keep _ _ hqh)
    have hrD := q2 _ _ (keep _ _ hqD)
    have hrc : CellIs lr (L + 1) (some (.ref hl)) := by obtain ⟨o, p1, p2⟩ := hqc; exact ⟨o, q2 _ _ (keep _ _ p1), p2⟩
    refine wpAny_assign_Tuple (s := { s with heap := h₉, toks := tk₉ }) r'.handled ⟨_, z.led _ _ hT', rfl, _, rfl⟩ rfl rfl fun h' hx' => ?_
    have z := z.ext fun a o q => hx' a o (ne_of_lt1 (Heap.lt_size q)) q
    refine assignInOrder_cons (wpAny_assign_Name (st_loc e z fun h₁₀ z => ?_))
    refine assignInOrder_cons (wpAny_assign_Name (st_loc e z fun h₁₁ z => ?_))
    refine assignInOrder_nil ?_
    refine wpAny_execs_cons (wpAny_If (isTrue_and (wpAny_isTrue_Compare1 (wpAny_UnaryOp (ev_loc e z rfl (neg_int (ev_cell e hce z hrc (in_ints z hrh hi (wpAny_truthy_bool ?_)))))))))
    by_cases c1 : -p ∈ hs
    · rw [if_pos (decide_eq_true c1)]
      refine isTrue_and (wpAny_isTrue_Compare1 (ev_loc e z rfl (ev_cell e hce z hrc (notin_ints z hrh hi (wpAny_truthy_bool ?_)))))
      by_cases c2 : q ∈ hs
      · rw [if_neg (by simp [c2])]
        exact wpAny_execs_nil (wpAny_execs_nil ⟨_, _, _, lr, rfl, z, ⟨q1, q2⟩, fun _ _ => rfl⟩)
      · rw [if_pos (by simp [c2])]
        refine isTrue_and (wpAny_isTrue_Compare1 (ev_loc e z q1 (ev_nil z fun D' h₁₂ hD' _ z => ?_)))
        refine ne_intsK (z.isList (upd_old hD' hrD)) hys (z.isList upd_self) .nil r'.unit64 (wpAny_truthy_bool ?_)
        have hnil : List.filter (fun k => decide (-k ∉ hs)) (List.drop 2 (x :: y :: rest)) = [] := by
          rw [List.filter_eq_nil_iff]
          intro k hk'
          have := (hpq c1).resolve_left c2 k hk'
          simpa using this
        rw [if_neg (by rw [hnil]; simp)]
        refine wpAny_execs_nil (wpAny_execs_nil ⟨_, _, _, _, rfl, z, ⟨q1, fun a o qa => upd_old hD' (q2 a o qa)⟩, fun a ha => ?_⟩)
        simp only [List.mem_cons, List.not_mem_nil, or_false] at ha
        rcases ha with rfl | rfl
        · rw [upd_old hD' hrI, hrI]
        · rw [upd_old hD' hrT, hrT]
    · rw [if_neg (by simp [c1])]
      exact wpAny_execs_nil (wpAny_execs_nil ⟨_, _, _, lr, rfl, z, ⟨q1, q2⟩, fun _ _ => rfl⟩)
  · rintro m₁ lr h₉ tk₉ I ⟨q1, q2⟩ z
    refine wpAny_execs_cons (wpAny_Return_some (wpAny_Constant_bool ?_))
    exact h _ _ (z.led.mono fun a o q => q2 _ _ (keep _ _ (hsub2 _ _ (hk _ _ q))))
end
end Mine

namespace Mine

/-- the other watched wish -/
def rwOther (x y won : Int) : Int := if x = -won then y else x

theorem rwSwap_eq {x y won : Int} {rest : List Int} (hin : -won ∈ (x :: y :: rest).take 2) : rwSwap (x :: y :: rest) won = rwOther x y won :: -won :: rest := by
  rw [rwSwap_two]
  unfold rwOther
  split
  · rfl
  · rename_i hq
    simp only [List.take_succ_cons, List.take_zero, List.mem_cons, List.not_mem_nil, or_false] at hin
    rw [hin.resolve_left fun q => hq q.symm]

theorem rwAfter_eq {f : Int → Option Bool} {x y won : Int} {rest : List Int} (hin : -won ∈ (x :: y :: rest).take 2) :
    rwAfter f (x :: y :: rest) won = if f (rwOther x y won) = some true then rwOther x y won :: -won :: rest else match rwPick f rest 0 with
      | some (n, c) => rwOther x y won :: c :: rest.set n (-won)
      | none => rwOther x y won :: -won :: rest := by
  unfold rwAfter; rw [rwSwap_eq hin]; rfl
theorem rwTold_eq {f : Int → Option Bool} {x y won : Int} {rest : List Int} (hin : -won ∈ (x :: y :: rest).take 2) :
    rwTold f (x :: y :: rest) won = if f (rwOther x y won) = some true then none else match rwPick f rest 0 with
      | some _ => none
      | none => some (rwOther x y won) := by
  unfold rwTold; rw [rwSwap_eq hin]; rfl

theorem rwPick_some {f : Int → Option Bool} : ∀ {rest : List Int} {i n : Nat} {c : Int}, rwPick f rest i = some (n, c) → i ≤ n ∧ rest[n - i]? = some c ∧ f c ≠ some false
  | [], _, _, _, h => by cases h
  | d :: r, i, n, c, h => by
    unfold rwPick at h
    split at h
    · obtain ⟨h1, h2, h3⟩ := rwPick_some h
      refine ⟨by omega, ?_, h3⟩
      rw [show n - i = (n - (i + 1)) + 1 by omega]; exact h2
    · cases h; exact ⟨Nat.le_refl _, by simp, by assumption⟩
theorem rwPick_none {f : Int → Option Bool} : ∀ {rest : List Int} {i : Nat}, rwPick f rest i = none → ∀ c ∈ rest, f c = some false
  | [], _, _, _, hc => by simp at hc
  | d :: r, i, h, c, hc => by
    unfold rwPick at h
    split at h
    · rcases List.mem_cons.mp hc with rfl | hc
      · assumption
      · exact rwPick_none h c hc
    · cases h

theorem perm_set : ∀ {rest : List Int} {n : Nat} {c a : Int}, rest[n]? = some c → (c :: rest.set n a).Perm (a :: rest)
  | [], _, _, _, h => by simp at h
  | d :: r, 0, c, a, h => by cases h; exact .swap _ _ _
  | d :: r, n + 1, c, a, h => by
    have ih := perm_set (rest := r) (n := n) (a := a) h
    exact ((List.Perm.swap d c _).trans (ih.cons d)).trans (.swap _ _ _)

theorem other_perm {x y won : Int} {rest : List Int} (hin : -won ∈ (x :: y :: rest).take 2) : (rwOther x y won :: -won :: rest).Perm (x :: y :: rest) := by
  unfold rwOther
  simp only [List.take_succ_cons, List.take_zero, List.mem_cons, List.not_mem_nil, or_false] at hin
  split
  · rename_i h; rw [← h]; exact .swap _ _ _
  · rename_i h; rw [hin.resolve_left fun q => h q.symm]

theorem rwAfter_perm {f : Int → Option Bool} {x y won : Int} {rest : List Int} (hin : -won ∈ (x :: y :: rest).take 2) : (rwAfter f (x :: y :: rest) won).Perm (x :: y :: rest) := by
  rw [rwAfter_eq hin]
  split
  · exact other_perm hin
  · split
    · rename_i n c hp
      obtain ⟨_, h2, _⟩ := rwPick_some hp
      exact ((perm_set (by simpa using h2)).cons _).trans (other_perm hin)
    · exact other_perm hin

/-- after a move: its shape -/
theorem rwAfter_shape {f : Int → Option Bool} {x y won : Int} {rest : List Int} (hin : -won ∈ (x :: y :: rest).take 2) :
    (f (rwOther x y won) = some true ∧ rwAfter f (x :: y :: rest) won = rwOther x y won :: -won :: rest ∧ rwTold f (x :: y :: rest) won = none) ∨
    (f (rwOther x y won) ≠ some true ∧ ∃ n c, rest[n]? = some c ∧ f c ≠ some false ∧ rwAfter f (x :: y :: rest) won = rwOther x y won :: c :: rest.set n (-won) ∧ rwTold f (x :: y :: rest) won = none) ∨
    (f (rwOther x y won) ≠ some true ∧ (∀ c ∈ rest, f c = some false) ∧ rwAfter f (x :: y :: rest) won = rwOther x y won :: -won :: rest ∧ rwTold f (x :: y :: rest) won = some (rwOther x y won)) := by
  rw [rwAfter_eq hin, rwTold_eq hin]
  by_cases h : f (rwOther x y won) = some true
  · rw [if_pos h, if_pos h]; exact .inl ⟨h, rfl, rfl⟩
  · rw [if_neg h, if_neg h]
    cases hp : rwPick f rest 0 with
    | some q =>
      obtain ⟨n, c⟩ := q
      obtain ⟨_, h2, h3⟩ := rwPick_some hp
      exact .inr (.inl ⟨h, n, c, by simpa using h2, h3, rfl, rfl⟩)
    | none => exact .inr (.inr ⟨h, rwPick_none hp, rfl, rfl⟩)
end Mine

namespace Mine

section
variable {prog : Program} {w : World} {A : Around} {E : Value → Shared → Prop} {s : Shared} {K : Frag} {mg mb : Str → Option Value} {b : Heap} {L : Addr} {m : Str → Option Value} {ld : Ld} {env : Env} {sc : Scope}

theorem Z.pushed {h' : Heap} {D : Addr} {o : Obj} (z : Z b L m ld s.heap) (hD : s.heap.get? D = none) (hDn : New b D) (hk : ∀ a o, s.heap.get? a = some o → h'.get? a = some o) (e : h'.get? D = some o) : Z b L m (upd ld D o) h' where
  ns := z.ns.keeps hk
  led := fun a o' q => by
    by_cases ha : a = D
    · subst ha; rw [upd_self] at q; cases q; exact e
    · rw [upd_ne ha] at q; exact hk _ _ (z.led _ _ q)
  fr := by
    rw [upd_ne fun e => by
      obtain ⟨oL, hL, _⟩ := LCg.ns_obj z.ns
      rw [e, hD] at hL; cases hL]
    exact z.fr
  base := fun a o' q => by
    rw [upd_ne fun e => by have := z.stays a o' q; rw [e, hD] at this; cases this]
    exact z.base _ _ q
  above := z.above

theorem sz_none {h : Heap} {a : Nat} (q : h.objs.size ≤ a) : h.get? a = none := by
  cases e : h.get? a with
  | none => rfl
  | some o => exact absurd (Heap.lt_size e) (Nat.not_lt.mpr q)

/-- list(x) of a list -/
theorem call_copy {l : Addr} {vs : List Value} {n : Nat} {Q : Value → Shared → Prop} (z : Z b L m ld s.heap) (hl : ld l = some (listOf vs.toArray n)) (hsz : vs.length ≤ 10000)
    (h : ∀ D h' c, ld D = none → New b D → Z b L m (upd ld D (listOf vs.toArray c)) h' → Q (.ref D) { s with heap := h' }) : wpAny (model prog w) A (call (.type "list") [.ref l]) Q E s :=
  call_list_seq (hsz := by rw [List.size_toArray, PySem.sizeLine_eq]; omega) l (.inl rfl) (z.led _ _ hl) rfl rfl fun h' c' hk hD => h _ h' c' z.size_none z.bs.size (z.pushed (sz_none (Nat.le_refl _)) z.bs.size hk hD)

/-- sorted(x) of a list of ints -/
theorem call_sorted {l : Addr} {vs : List Value} {ns : List Int} {n : Nat} {Q : Value → Shared → Prop} (z : Z b L m ld s.heap) (hl : ld l = some (listOf vs.toArray n)) (hi : IntsAre vs ns) (h64 : vs.length < 64)
    (h : ∀ D h' vs' ns' e, ld D = none → New b D → Z b L m (upd ld D (listOf vs'.toArray e)) h' → IntsAre vs' ns' → ns'.Perm ns → ns'.Pairwise (· ≤ ·) → Q (.ref D) { s with heap := h' }) :
    wpAny (model prog w) A (call (.builtin "sorted") [.ref l]) Q E s := by
  refine sorted_ints (z.isList hl) hi h64 fun out ns' a1 a2 a3 => ?_
  obtain ⟨e, he⟩ := sortedAll_at s.heap vs out
  exact h _ _ out.toList ns' e z.none1 (Nat.le_succ_of_le z.bs.size) (z.pushed (sz_none (Nat.le_succ _)) (Nat.le_succ_of_le z.bs.size) (fun _ _ => sortedAll_old) he) a1 a2 a3

theorem sorted_unique {a b c d : List Int} (hab : a.Perm b) (hcb : c.Perm d) (hbd : b.Perm d) (ha : a.Pairwise (· ≤ ·)) (hc : c.Pairwise (· ≤ ·)) : a = c :=
  List.Perm.eq_of_pairwise (fun x y _ _ h1 h2 => Int.le_antisymm h1 h2) ha hc (hab.trans (hbd.trans hcb.symm))

end
end Mine

namespace Mine

/-- the table tells what is held -/
def HeldIs (f : Int → Option Bool) (hs : List Int) : Prop := ∀ k, (f k = some true ↔ k ∈ hs) ∧ (f k = some false ↔ -k ∈ hs)

section
variable {w : World} {A : Around} {E : Value → Shared → Prop} {s : Shared} {mg mb : Str → Option Value} {b : Heap}

set_option maxHeartbeats 4000000 in
theorem moved_spec {c d l hl : Addr} {p : AsAddr} {v1 v2 : Value} {f : Int → Option Bool} {seen asg : List Int} {x y won : Int} {t : Tok} {rest hs : List Int} {hvs : List Value} {hn : Nat} {Q : Value → Shared → Prop}
    (C : Cx (KK w) mg mb b) (hB : Bs b s.heap) (r : Room A 3) (hc : Cl s.heap.get? c d l v1 v2 (x :: y :: rest)) (hln : New b l) (hlen : rest.length ≤ 20) (hin : -won ∈ (x :: y :: rest).take 2)
    (hp : p.Ok b) (S : AS PP w s.heap.get? p f seen asg) (hh : s.heap.get? hl = some (listOf hvs.toArray hn)) (hi : IntsAre hvs hs) (hne : hl ≠ l) (hf : HeldIs f hs)
    (h : ∀ h' tk vs' ln', Led (upd s.heap.get? l (listOf vs'.toArray ln')) h' → IntsAre vs' (rwAfter f (x :: y :: rest) won) → Q (.bool true) { s with heap := h', toks := tk }) :
    wpAny (model PP w) A (call (.ref 279) [.ref c, .ref p.a, .int won t, .ref hl]) Q E s := by
  refine enterX (n := 2) C hB r rfl rfl rfl (BindsTo.of_eq rfl) rfl rfl rfl rfl rfl rfl rfl ?_
  intro A' env L ld h₁ tk r' e hcs hL hL0 z hk hcell _
  dsimp only at e hcs
  have hcs' : env.cells = [((("held" : Str), L + 1) : Str × Addr)] := hcs
  have hce : env.cells.lookup ("held" : Str) = some (L + 1) := by rw [hcs']; rfl
  obtain ⟨hcv, hc0, hcn⟩ := hcell "held" (L + 1) hce
  replace hcv : CellIs ld (L + 1) (some (.ref hl)) := hcv
  obtain ⟨h1, h2, h3, t1, t2, t3, n, hd⟩ := hc.dict
  obtain ⟨vs, ln, hli, hii⟩ := hc.list
  have hvl : vs.length = rest.length + 2 := hii.length
  have hkl := hk _ _ hli
  have hkh := hk _ _ hh
  -- before
  refine wpAny_execs_cons (wpAny_Assign_Name (Call_ (ev_bi e C z rfl Pv.boot_list (Pv.callWith_type1 (args_cons ?_)))))
  refine Attribute_Name_ (ev_loc e z rfl (ga_own C z (hk _ _ hc.inst) (hk _ _ hd) rfl rfl rfl rfl rfl (args_nil ?_)))
  refine call_copy z hkl (by omega) fun B h₂ c₂ hB0 hBn z => st_loc e z fun h₃ z => ?_
  dsimp only
  have hsB : ∀ a o, ld a = some o → upd ld B (listOf vs.toArray c₂) a = some o := fun a o q => upd_old hB0 q
  have hBB : upd ld B (listOf vs.toArray c₂) B = some (listOf vs.toArray c₂) := upd_self
  generalize upd ld B (listOf vs.toArray c₂) = ld₁ at z hsB hBB
  -- other
  refine wpAny_execs_cons (wpAny_Assign_Name (wpAny_mono (Q := fun v s' => ∃ u tk, v = .int (rwOther x y won) u ∧ s' = { s with heap := h₃, toks := tk }) ?_ ?_ fun _ _ x => x))
  · refine wpAny_IfExp (wpAny_isTrue_Compare1 (Subscript_ (ev_loc e z rfl (wpAny_Constant_int (it_int z hBB hii (v := x) rfl (by decide) (by decide) fun u1 => ?_)))))
    refine wpAny_UnaryOp (ev_loc e z rfl (neg_int (eq_int (wpAny_truthy_bool ?_))))
    by_cases hq : x = -won
    · rw [if_pos (by rw [hq]; exact beq_self_eq_true _)]
      refine Subscript_ (ev_loc e z rfl (wpAny_Constant_int (it_int z hBB hii (v := y) rfl (by decide) (by decide) fun u1 => ?_)))
      exact ⟨_, _, by unfold rwOther; rw [if_pos hq], rfl⟩
    · rw [if_neg (by simpa using hq)]
      refine Subscript_ (ev_loc e z rfl (wpAny_Constant_int (it_int z hBB hii (v := x) rfl (by decide) (by decide) fun u1 => ?_)))
      exact ⟨_, _, by unfold rwOther; rw [if_neg hq], rfl⟩
  rintro v s' ⟨u, tk₃, rfl, rfl⟩
  refine st_loc e z fun h₄ z => ?_
  dsimp only
  generalize hoth : rwOther x y won = oth at z ⊢
  -- spare
  refine wpAny_execs_cons (as_lc e hcs' rfl (ev_from e z rfl hBB (by omega) fun a h₃ tk₃ ha z => ?_))
  refine lc_filter (fun k => decide (-k ∉ hs)) r' e z upd_self (hii.drop 2) (by rw [List.length_drop]; omega) ?_ ?_
  · rintro C' k t m₁ lq h₄ tk₄ hsub _ eC z'
    have q1 : CellIs lq (L + 1) (some (.ref hl)) := by obtain ⟨o, p1, p2⟩ := hcv; exact ⟨o, hsub _ _ (upd_old ha (hsB _ _ p1)), p2⟩
    refine wpAny_isTrue_Compare1 (wpAny_UnaryOp (ev_loc eC z' rfl (neg_int (ev_cell eC rfl z' q1 (notin_ints z' (hsub _ _ (upd_old ha (hsB _ _ hkh))) hi (wpAny_truthy_bool ?_))))))
    exact ⟨rfl, _, _, rfl, z'⟩
  rintro D C' ys lq mC h₅ tk₅ hD hDn hsub hys hqD z hC' hLC hns
  refine post_use e z hC' hLC hns fun h₆ z => ?_
  dsimp only
  have hk2 : ∀ a' o, s.heap.get? a' = some o → lq a' = some o := fun a' o q => hsub _ _ (upd_old ha (hsB _ _ (hk _ _ q)))
  have hqB := hsub _ _ (upd_old ha hBB)
  have hqc : CellIs lq (L + 1) (some (.ref hl)) := by obtain ⟨o, p1, p2⟩ := hcv; exact ⟨o, hsub _ _ (upd_old ha (hsB _ _ p1)), p2⟩
  have hBl : B ≠ l := fun e => by rw [e, hkl] at hB0; cases hB0
  have hDl : D ≠ l := fun e => by rw [e, upd_old ha (hsB _ _ hkl)] at hD; cases hD
  have hcl : L + 1 ≠ l := fun e => by rw [e, hli] at hc0; cases hc0
  clear hns hC' hsub ha hD
  -- told
  refine wpAny_execs_cons (wpAny_Assign_Name (MethodCall_ (ev_loc e z rfl (gm_inst C z (hk2 _ _ hc.inst) (hk2 _ _ hd) rfl rfl rfl rfl ?_))))
  refine cw_K C rfl (args_cons (ev_loc e z rfl (args_cons (ev_loc e z rfl (args_nil ⟨z.stays, ?_⟩)))))
  obtain ⟨g1, g2, g3, g4, g5, g6, w1, w2, w3, w4, w5, w6, nn, hdict⟩ := S.dict
  obtain ⟨o1, kvs1, hx1, hk1, hf1, _⟩ := S.data
  refine rewatch_spec C z.bs r' (z.led _ _ (hk2 _ _ hc.inst)) (z.led _ _ (hk2 _ _ hd)) ⟨rfl, rfl⟩ (z.led _ _ (hk2 _ _ hli)) hln hii (by simp) (by simp only [List.length_cons]; omega) hin
    (z.led _ _ (hk2 _ _ S.inst)) (z.led _ _ (hk2 _ _ hdict)) ⟨rfl, rfl⟩ (z.led _ _ (hk2 _ _ hx1)) hp.n1 hk1 hf1 fun h₇ tk₇ vs' told hled hi' htold => ?_
  have z := z.call (hk2 _ _ hli) (New.none hln) hled
  refine st_loc e z fun h₈ z => ?_
  dsimp only
  have hk3 : ∀ a' o, a' ≠ l → s.heap.get? a' = some o → upd lq l (listOf vs'.toArray ln) a' = some o := fun a' o q1 q2 => by rw [upd_ne q1]; exact hk2 _ _ q2
  have h3c := hk3 _ _ (ne_of_cls hc.inst hli (by simp)) hc.inst
  have h3d := hk3 _ _ (ne_of_cls hd hli (by simp)) hd
  have h3h := hk3 _ _ hne hh
  have h3B : upd lq l (listOf vs'.toArray ln) B = some (listOf vs.toArray c₂) := (upd_ne hBl).trans hqB
  have h3D : upd lq l (listOf vs'.toArray ln) D = some (lstO ys) := (upd_ne hDl).trans hqD
  have h3l : upd lq l (listOf vs'.toArray ln) l = some (listOf vs'.toArray ln) := upd_self
  have h3k : CellIs (upd lq l (listOf vs'.toArray ln)) (L + 1) (some (.ref hl)) := by obtain ⟨o, p1, p2⟩ := hqc; exact ⟨o, (upd_ne hcl).trans p1, p2⟩
  have hout : ∀ a o, upd s.heap.get? l (listOf vs'.toArray ln) a = some o → upd lq l (listOf vs'.toArray ln) a = some o := fun a o q => by
    by_cases ha : a = l
    · subst ha; rw [upd_self] at q ⊢; exact q
    · rw [upd_ne ha] at q ⊢; exact hk2 _ _ q
  generalize upd lq l (listOf vs'.toArray ln) = l3 at z h3c h3d h3h h3B h3D h3l h3k hout
  clear hk3 hk2 hqB hqD hqc
  have hperm := rwAfter_perm (f := f) hin
  have hvl' : vs'.length = rest.length + 2 := by rw [hi'.length, hperm.length_eq]; rfl
  -- after
  refine wpAny_execs_cons (wpAny_Assign_Name (Call_ (ev_bi e C z rfl Pv.boot_list (Pv.callWith_type1 (args_cons ?_)))))
  refine Attribute_Name_ (ev_loc e z rfl (ga_own C z h3c h3d rfl rfl rfl rfl rfl (args_nil ?_)))
  refine call_copy z h3l (by omega) fun F h₉ c₉ hF0 hFn z => st_loc e z fun h₁₀ z => ?_
  dsimp only
  have keep : ∀ a o, l3 a = some o → upd l3 F (listOf vs'.toArray c₉) a = some o := fun a o q => upd_old hF0 q
  have hFF : upd l3 F (listOf vs'.toArray c₉) F = some (listOf vs'.toArray c₉) := upd_self
  generalize upd l3 F (listOf vs'.toArray c₉) = l4 at z keep hFF
  have h4k : CellIs l4 (L + 1) (some (.ref hl)) := by obtain ⟨o, p1, p2⟩ := h3k; exact ⟨o, keep _ _ p1, p2⟩
  have h4D := keep _ _ h3D
  have h4h := keep _ _ h3h
  have h4B := keep _ _ h3B
  obtain ⟨a1, tl, haft⟩ : ∃ a1 tl, rwAfter f (x :: y :: rest) won = oth :: a1 :: tl := by
    rcases rwAfter_shape (f := f) hin with ⟨_, q, _⟩ | ⟨_, _, _, _, _, q, _⟩ | ⟨_, _, q, _⟩ <;> rw [q, hoth] <;> exact ⟨_, _, rfl⟩
  -- the checks
  refine wpAny_execs_cons (wpAny_mono (Q := fun fl s' => fl = Flow.next ∧ ∃ h tk m ld, s' = { s with heap := h, toks := tk } ∧ Z b L m ld h ∧ (∀ a o, l4 a = some o → ld a = some o) ∧ m "other" = some (.int oth u) ∧ m "told" = some told ∧ m "after" = some (.ref F) ∧ m "spare" = some (.ref D) ∧ m "won" = some (.int won t)) ?_ ?_ fun _ _ x => x)
  · refine wpAny_If (isTrue_or (wpAny_isTrue_Compare1 (Call_ (ev_bi e C z rfl boot_sorted (PyProof.Rows.callWith_builtin1 (args_cons (ev_loc e z rfl (args_nil ?_))))))))
    refine call_sorted z hFF hi' (by omega) fun S1 h₁₁ us1 ns1 e1 hS1 _ z i1 p1 q1 => ?_
    refine Call_ (ev_bi e C z rfl boot_sorted (PyProof.Rows.callWith_builtin1 (args_cons (ev_loc e z rfl (args_nil ?_)))))
    refine call_sorted z (upd_old hS1 h4B) hii (by omega) fun S2 h₁₂ us2 ns2 e2 hS2 _ z i2 p2 q2 => ?_
    refine ne_intsK (z.isList (upd_old hS2 upd_self)) i1 (z.isList upd_self) i2 r'.unit64 (wpAny_truthy_bool ?_)
    rw [if_neg (by rw [decide_eq_true (sorted_unique p1 p2 hperm q1 q2)]; simp)]
    refine isTrue_or (wpAny_isTrue_Compare1 (Subscript_ (ev_loc e z rfl (wpAny_Constant_int (it_int z (upd_old hS2 (upd_old hS1 hFF)) hi' (v := oth) (by rw [haft]; rfl) (by decide) (by decide) fun u2 => ?_)))))
    refine ev_loc e z rfl (ne_int (wpAny_truthy_bool ?_))
    rw [if_neg (by simp)]
    refine isTrue_or_nil ?_
    exact wpAny_execs_nil ⟨rfl, _, _, _, _, rfl, z, fun a o q => upd_old hS2 (upd_old hS1 q), rfl, rfl, rfl, rfl, rfl⟩
  rintro fl s' ⟨rfl, h₁₁, tk₁₁, m, l5, rfl, z, keep5, m1, m2, m3, m4, m5⟩
  dsimp only
  have h5k : CellIs l5 (L + 1) (some (.ref hl)) := by obtain ⟨o, p1, p2⟩ := h4k; exact ⟨o, keep5 _ _ p1, p2⟩
  have h5D := keep5 _ _ h4D
  have h5h := keep5 _ _ h4h
  have h5F := keep5 _ _ hFF
  have fin : ∀ h' tk ld', Led ld' h' → (∀ a o, l5 a = some o → ld' a = some o) → Q (.bool true) { s with heap := h', toks := tk } := fun h' tk ld' q1 q2 => h h' tk vs' ln (q1.mono fun a o q => q2 _ _ (keep5 _ _ (keep _ _ (hout _ _ q)))) hi'
  rcases rwAfter_shape (f := f) hin with ⟨g1, g2, g3⟩ | ⟨g1, j, cc, g4, g5, g2, g3⟩ | ⟨g1, g4, g2, g3⟩
  · rw [g3] at htold
    dsimp only at htold
    rw [htold] at m2
    have hoh : oth ∈ hs := ((hf oth).1).mp (hoth ▸ g1)
    have ha1 : a1 = -won := by rw [haft, hoth] at g2; injection g2 with _ g2; injection g2
    refine wpAny_execs_cons (wpAny_If (wpAny_isTrue_Compare1 (ev_loc e z m1 (ev_cell e hce z h5k (in_ints z h5h hi (wpAny_truthy_bool ?_))))))
    rw [if_pos (decide_eq_true hoh)]
    refine wpAny_execs_cons (wpAny_Return_some (ev_and (wpAny_Compare1 (ev_loc e z m2 (wpAny_Constant_none (wpAny_is_plain rfl (wpAny_truthy_bool ?_)))))))
    rw [if_pos (by decide)]
    refine ev_and1 (wpAny_Compare1 (Subscript_ (ev_loc e z m3 (wpAny_Constant_int (it_int z h5F hi' (v := a1) (by rw [haft]; rfl) (by decide) (by decide) fun u2 => ?_)))))
    refine wpAny_UnaryOp (ev_loc e z m5 (neg_int (eq_int ?_)))
    rw [ha1, beq_self_eq_true]
    exact fin _ _ _ z.led fun _ _ q => q
  · rw [g3] at htold
    dsimp only at htold
    rw [htold] at m2
    have hoh : oth ∉ hs := fun q => g1 (hoth ▸ ((hf oth).1).mpr q)
    refine wpAny_execs_cons (wpAny_If (wpAny_isTrue_Compare1 (ev_loc e z m1 (ev_cell e hce z h5k (in_ints z h5h hi (wpAny_truthy_bool ?_))))))
    rw [if_neg (by simp [hoh])]
    refine wpAny_execs_nil ?_
    refine wpAny_execs_cons (wpAny_If (wpAny_isTrue_Compare1 (ev_loc e z m4 (ev_nil z fun D' h₁₂ hD' _ z => ?_))))
    refine ne_intsK (z.isList (upd_old hD' h5D)) hys (z.isList upd_self) .nil r'.unit64 (wpAny_truthy_bool ?_)
    have hmem : cc ∈ List.filter (fun k => decide (-k ∉ hs)) (List.drop 2 (x :: y :: rest)) := by
      rw [List.mem_filter]
      exact ⟨List.mem_of_getElem? g4, decide_eq_true fun q => g5 (((hf cc).2).mpr q)⟩
    rw [if_pos (by rw [decide_eq_false (fun e => by rw [e] at hmem; cases hmem)]; rfl)]
    refine wpAny_execs_cons (wpAny_Return_some (wpAny_Compare1 (ev_loc e z m2 (wpAny_Constant_none (wpAny_is_plain rfl ?_)))))
    exact fin _ _ _ z.led fun _ _ q => upd_old hD' q
  · rw [g3] at htold
    dsimp only at htold
    obtain ⟨u3, htold⟩ := htold
    rw [htold, hoth] at m2
    have hoh : oth ∉ hs := fun q => g1 (hoth ▸ ((hf oth).1).mpr q)
    have ha1 : a1 = -won := by rw [haft, hoth] at g2; injection g2 with _ g2; injection g2
    refine wpAny_execs_cons (wpAny_If (wpAny_isTrue_Compare1 (ev_loc e z m1 (ev_cell e hce z h5k (in_ints z h5h hi (wpAny_truthy_bool ?_))))))
    rw [if_neg (by simp [hoh])]
    refine wpAny_execs_nil ?_
    refine wpAny_execs_cons (wpAny_If (wpAny_isTrue_Compare1 (ev_loc e z m4 (ev_nil z fun D' h₁₂ hD' _ z => ?_))))
    refine ne_intsK (z.isList (upd_old hD' h5D)) hys (z.isList upd_self) .nil r'.unit64 (wpAny_truthy_bool ?_)
    have hnil : List.filter (fun k => decide (-k ∉ hs)) (List.drop 2 (x :: y :: rest)) = [] := by
      rw [List.filter_eq_nil_iff]
      intro k hk'
      have := ((hf k).2).mp (g4 k hk')
      simpa using this
    rw [if_neg (by rw [hnil]; simp)]
    refine wpAny_execs_nil ?_
    have h6F := upd_old (o' := lstO []) hD' h5F
    refine wpAny_execs_cons (wpAny_Return_some (ev_and (wpAny_Compare1 (ev_loc e z m2 (ev_loc e z m1 (eq_int (wpAny_truthy_bool ?_)))))))
    rw [if_pos (beq_self_eq_true _)]
    refine ev_and (wpAny_UnaryOp (Call_ (ev_bi e C z rfl boot_isinstance (PyProof.Rows.callWith_builtin1 (args_cons (ev_loc e z m2 (args_cons (ev_bi e C z rfl boot_bool (args_nil ?_)))))))))
    refine PySem.call_isinstance (PySem.isinstance_false_int rfl meta_bool sub_int_bool) (not_of (wpAny_truthy_bool (wpAny_truthy_bool ?_)))
    rw [if_pos (by decide)]
    refine ev_and1 (wpAny_Compare1 (Subscript_ (ev_loc e z m3 (wpAny_Constant_int (it_int z h6F hi' (v := a1) (by rw [haft]; rfl) (by decide) (by decide) fun u2 => ?_)))))
    refine wpAny_UnaryOp (ev_loc e z m5 (neg_int (eq_int ?_)))
    rw [ha1, beq_self_eq_true]
    exact fin _ _ _ z.led fun _ _ q => upd_old hD' q
end
end Mine

namespace Mine

/-- addresses of a clause: itself, its dict, its list -/
structure CA where
  c : Addr
  d : Addr
  l : Addr
/-- clauses at cs with the wishes litss -/
structure Cls (b : Heap) (ld : Ld) (cs : List CA) (litss : List (List Int)) : Prop where
  len : cs.length = litss.length
  cl : ∀ (i : Nat) a lits, cs[i]? = some a → litss[i]? = some lits → Cl ld a.c a.d a.l (.bool false) .none lits
  new : ∀ a ∈ cs, New b a.l
  apart : (cs.map CA.l).Nodup

theorem Cl.congr {ld ld' : Ld} {c d l : Addr} {v1 v2 : Value} {lits : List Int} (x : Cl ld c d l v1 v2 lits) (h : ∀ a ∈ [c, d, l], ∀ o, ld a = some o → ld' a = some o) : Cl ld' c d l v1 v2 lits where
  inst := h _ (by simp) _ x.inst
  dict := let ⟨h1, h2, h3, t1, t2, t3, n, q⟩ := x.dict; ⟨h1, h2, h3, t1, t2, t3, n, h _ (by simp) _ q⟩
  list := let ⟨vs, n, q, r⟩ := x.list; ⟨vs, n, h _ (by simp) _ q, r⟩
theorem Cl.has {ld : Ld} {c d l : Addr} {v1 v2 : Value} {lits : List Int} (x : Cl ld c d l v1 v2 lits) {a : Addr} (ha : a ∈ [c, d, l]) : ∃ o, ld a = some o := by
  simp only [List.mem_cons, List.not_mem_nil, or_false] at ha
  rcases ha with rfl | rfl | rfl
  · exact ⟨_, x.inst⟩
  · obtain ⟨_, _, _, _, _, _, _, q⟩ := x.dict; exact ⟨_, q⟩
  · obtain ⟨_, _, q, _⟩ := x.list; exact ⟨_, q⟩

def CA.all (a : CA) : List Addr := [a.c, a.d, a.l]
theorem Cls.get {b : Heap} {ld : Ld} {cs : List CA} {litss : List (List Int)} (x : Cls b ld cs litss) {a : CA} (ha : a ∈ cs) : ∃ (i : Nat) (lits : List Int), cs[i]? = some a ∧ litss[i]? = some lits ∧ Cl ld a.c a.d a.l (.bool false) .none lits := by
  obtain ⟨i, hi⟩ := List.getElem?_of_mem ha
  have hlt : i < litss.length := by rw [← x.len]; exact (List.getElem?_eq_some_iff.mp hi).1
  exact ⟨i, litss[i], hi, List.getElem?_eq_getElem hlt, x.cl i a _ hi (List.getElem?_eq_getElem hlt)⟩
theorem Cls.has {b : Heap} {ld : Ld} {cs : List CA} {litss : List (List Int)} (x : Cls b ld cs litss) {a : CA} (ha : a ∈ cs) {k : Addr} (hk : k ∈ a.all) : ∃ o, ld k = some o := by
  obtain ⟨i, lits, _, _, q⟩ := x.get ha
  exact q.has hk
theorem Cls.mono {b : Heap} {ld ld' : Ld} {cs : List CA} {litss : List (List Int)} (x : Cls b ld cs litss) (h : ∀ a ∈ cs, ∀ k ∈ a.all, ∀ o, ld k = some o → ld' k = some o) : Cls b ld' cs litss :=
  ⟨x.len, fun i a lits h1 h2 => (x.cl i a lits h1 h2).congr (h a (List.mem_of_getElem? h1)), x.new, x.apart⟩
theorem Cls.snoc {b : Heap} {ld : Ld} {cs : List CA} {litss : List (List Int)} (x : Cls b ld cs litss) {a : CA} {lits : List Int} (h : Cl ld a.c a.d a.l (.bool false) .none lits) (hn : New b a.l) (hap : ∀ a' ∈ cs, a'.l ≠ a.l) : Cls b ld (cs ++ [a]) (litss ++ [lits]) := by
  refine ⟨by rw [List.length_append, List.length_append, x.len]; rfl, fun i q ms h1 h2 => ?_, fun q hq => ?_, ?_⟩
  · rcases Nat.lt_trichotomy i cs.length with hl | hl | hl
    · rw [List.getElem?_append_left hl] at h1
      rw [List.getElem?_append_left (by rw [← x.len]; exact hl)] at h2
      exact x.cl i q ms h1 h2
    · subst hl
      rw [List.getElem?_concat_length] at h1
      rw [x.len, List.getElem?_concat_length] at h2
      cases h1; cases h2; exact h
    · rw [List.getElem?_eq_none (by rw [List.length_append]; exact hl)] at h1; cases h1
  · rcases List.mem_append.mp hq with h1 | h1
    · exact x.new q h1
    · rw [List.mem_singleton.mp h1]; exact hn
  · rw [List.map_append, List.nodup_append]
    refine ⟨x.apart, by simp, fun k hk k' hk' => ?_⟩
    obtain ⟨a', ha', rfl⟩ := List.mem_map.mp hk
    simp only [List.map_cons, List.map_nil, List.mem_singleton] at hk'
    rw [hk']; exact hap a' ha'

section
variable {w : World} {A : Around} {E : Value → Shared → Prop} {s : Shared} {mg mb : Str → Option Value} {b : Heap} {L : Addr} {m : Loc} {ld : Ld} {env : Env}
noncomputable abbrev lawB (w : World) : List Stmt := fnBody (KK w) 289
noncomputable abbrev lawS (w : World) : Scope := fnScope (KK w) 289

set_option maxHeartbeats 4000000 in
/-- clauses = [Clause(wishes) for wishes in pool] -/
theorem law_clauses {D : Addr} {ps : List Addr} {nss : List (List Int)} {cells : List (Str × Addr)} {mm : Nat} {Q : Flow → Shared → Prop}
    (C : Cx (KK w) mg mb b) (r : Room A (mm + 2)) (e : EnvIs env (lawS w) L) (hcs : env.cells = cells) (z : Z b L m ld s.heap) (hD : m "pool" = some (.ref D)) (hqD : ld D = some (lstO (ps.map .ref))) (hR : Rows2 ld ps nss) (h4 : ps.length = 4) (hW : ∀ ms ∈ nss, ms.length ≤ 5)
    (h : ∀ h' tk ld' F cs, Z b L (fun n => if n = "clauses" then some (.ref F) else m n) ld' h' → (∀ a o, ld a = some o → ld' a = some o) → ld F = none → ld' F = some (lstO (cs.map fun a => .ref a.c)) → Cls b ld' cs (nss.map dedup) →
      (∀ a ∈ cs, ∀ k ∈ a.all, ld k = none ∧ k ≠ F) → Q .next { s with heap := h', toks := tk }) :
    wpAny (model PP w) A (exec ((lawB w).getD 2 (.Pass default)) env) Q (fun _ _ => False) s := by
  show wpAny _ _ (exec (.Assign [.Name "clauses" _] (.ListComp _ [⟨.Name "wishes" _, .Name "pool" _, [], 0⟩] _ _) _) env) _ _ _
  refine as_lc e hcs rfl (ev_loc e z hD ?_)
  refine lc_list (cl := []) r e z hqD (by rw [List.size_toArray, List.length_map, h4, PySem.sizeLine_eq]; decide)
    (fun I F i ys l => (∀ a o, ld a = some o → l a = some o) ∧ ∃ cs, ys = cs.map (fun a => Value.ref a.c) ∧ Cls b l cs ((nss.take i).map dedup) ∧ ∀ a ∈ cs, ∀ k ∈ a.all, ld k = none ∧ k ≠ I ∧ k ≠ F ∧ k ≠ L) ?_ ?_ ?_ ?_
  · intro I F ld₁ _ _ q
    exact ⟨q, [], rfl, ⟨rfl, fun _ _ _ h => by simp at h, fun _ h => by simp at h, by simp⟩, fun _ h => by simp at h⟩
  · rintro I F hI hF i ys l l' ⟨q1, cs, q2, q3, q4⟩ q5
    refine ⟨fun a o q => ?_, cs, q2, q3.mono fun a ha k hk o q => ?_, q4⟩
    · rw [q5 a (fun e => by rw [e, hI] at q; cases q) (fun e => by rw [e, hF] at q; cases q) (z.neL q)]; exact q1 a o q
    · obtain ⟨_, p1, p2, p3⟩ := q4 a ha k hk
      rw [q5 k p1 p2 p3]; exact q
  · rintro I C' F i v ys m₁ lq h₁ tk₁ hI hF hC' hv ⟨q1, cs, q2, q3, q4⟩ hqx hqI hqF hqL eC z'
    obtain ⟨p, hp, rfl⟩ : ∃ p, ps[i]? = some p ∧ v = .ref p := by
      rw [List.getElem?_toArray, List.getElem?_map] at hv
      obtain ⟨p, hp, q⟩ := Option.map_eq_some_iff.mp hv
      exact ⟨p, hp, q.symm⟩
    have hlt : i < nss.length := by rw [← hR.1]; exact (List.getElem?_eq_some_iff.mp hp).1
    obtain ⟨ys', hy1, hy2⟩ := hR.2 i p nss[i] hp (List.getElem?_eq_getElem hlt)
    refine wpAny_tests_nil ?_
    rw [if_pos rfl]
    refine Call_ (ev_glob eC C z' rfl (cw_K C rfl (args_cons (ev_loc eC z' rfl (args_nil ⟨z'.stays, ?_⟩)))))
    refine mkClause_spec (v1 := .bool false) (v2 := .none) C z'.bs (r.le (by omega)) (z'.led _ _ (q1 _ _ hy1)) hy2 (Nat.le_trans (hW _ (List.getElem_mem hlt)) (by decide)) (.inl ⟨rfl, rfl, rfl⟩) rfl rfl fun h₂ tk₂ ld' c cd l led hk hc0 hd0 hl0 hcn hdn hln hcl => ?_
    have hno : ∀ k ∈ [c, cd, l], h₁.get? k = none := fun k hk => by
      simp only [List.mem_cons, List.not_mem_nil, or_false] at hk
      rcases hk with rfl | rfl | rfl <;> assumption
    have hne : ∀ k ∈ [c, cd, l], ∀ a o, lq a = some o → a ≠ k := fun k hk a o q e => by
      have := z'.led _ _ q; rw [e, hno k hk] at this; cases this
    have z₂ := z'.calls (W := [c, cd, l]) (fun k hk => by
      simp only [List.mem_cons, List.not_mem_nil, or_false] at hk
      rcases hk with rfl | rfl | rfl <;> assumption) (fun hm => by
      obtain ⟨oC, hoC, _⟩ := LCg.ns_obj z'.ns
      rw [hno _ hm] at hoC; cases hoC) led (fun a o _ q => hk a o q)
    have keep : ∀ a o, lq a = some o → mix [c, cd, l] ld' lq a = some o := fun a o q => by
      rw [mix_out fun hm => hne a hm a o q rfl]; exact q
    have htk : (nss.take (i + 1)).map dedup = (nss.take i).map dedup ++ [dedup nss[i]] := by
      rw [List.take_add_one, List.getElem?_eq_getElem hlt, List.map_append]; rfl
    obtain ⟨oI, hoI⟩ := Option.isSome_iff_exists.mp hqI
    obtain ⟨oL, hoL⟩ := Option.isSome_iff_exists.mp hqL
    refine ⟨h₂, tk₂, _, _, rfl, z₂, ⟨fun a o q => keep a o (q1 a o q), cs ++ [⟨c, cd, l⟩], ?_, ?_, ?_⟩, fun a ha => ?_⟩
    · rw [List.map_append, q2]; rfl
    · rw [htk]
      refine (q3.mono fun a _ k _ o q => keep k o q).snoc (hcl.congr fun a ha o q => by rw [mix_in ha]; exact q) hln fun a' ha' => ?_
      obtain ⟨o, ho⟩ := q3.has ha' (k := a'.l) (by simp [CA.all])
      exact hne l (by simp) _ _ ho
    · intro a ha k hk'
      rcases List.mem_append.mp ha with h1 | h1
      · exact q4 a h1 k hk'
      · rw [List.mem_singleton.mp h1] at hk'
        refine ⟨?_, Ne.symm (hne k hk' I oI hoI), Ne.symm (hne k hk' F _ hqF), Ne.symm (hne k hk' L oL hoL)⟩
        cases q : ld k with
        | none => rfl
        | some o => exact absurd rfl (hne k hk' k o (q1 _ _ q))
    · simp only [List.mem_cons, List.not_mem_nil, or_false] at ha
      rcases ha with rfl | rfl | rfl | rfl
      · rw [keep _ _ hoI, hoI]
      · rw [keep _ _ hqx, hqx]
      · rw [keep _ _ hqF, hqF]
      · rw [keep _ _ hoL, hoL]
  · rintro I F C' ys lq mC h₁ tk₁ hF hFn ⟨q1, cs, q2, q3, q4⟩ hqF z' hC' hLC hns
    refine post_use e z' hC' hLC hns fun h₂ z₂ => ?_
    rw [List.size_toArray, List.length_map, hR.1, List.take_length] at q3
    rw [q2] at hqF
    exact h _ _ _ F cs z₂ q1 hF hqF q3 fun a ha k hk => ⟨(q4 a ha k hk).1, (q4 a ha k hk).2.2.1⟩
end
end Mine

namespace Mine
open PySem.Spec PySem.SeqAt

def rowD (ns : List Int) : PyData := .list (ns.map PyData.int)
theorem canLay_rows : ∀ nss : List (List Int), PyData.canLayAll0 (nss.map rowD) = true
  | [] => by simp [PyData.canLayAll0]
  | n :: r => by simp [PyData.canLayAll0, rowD, PyData.canLay0, canLayAll0_ints n, canLay_rows r]
theorem depth_rows : ∀ nss : List (List Int), PyData.depthAll (nss.map rowD) ≤ 2
  | [] => by simp [PyData.depthAll]
  | n :: r => by
    have h1 := depth_rows r
    have h2 := PySem.W.depthAll_ints n
    simp only [List.map_cons, PyData.depthAll, rowD, PyData.depth]
    omega
theorem shaped_rows (nss : List (List Int)) : shaped (.list (nss.map rowD)) = true := by
  have h1 := depth_rows nss
  have h2 : PyData.depth (.list (nss.map rowD)) ≤ 64 := by simp only [PyData.depth]; omega
  show (PyData.canLay0 (.list (nss.map rowD)) && decide (PyData.depth (.list (nss.map rowD)) ≤ 64)) = true
  rw [Bool.and_eq_true]
  exact ⟨by simp only [PyData.canLay0]; exact canLay_rows nss, decide_eq_true h2⟩
theorem noMix_rows : ∀ nss : List (List Int), noMixAll (nss.map rowD) (nss.map rowD) = true
  | [] => by simp [noMixAll]
  | n :: r => by simp [noMixAll, rowD, noMix, noMix_ints n n]; exact noMix_rows r
theorem same_rows : ∀ nss : List (List Int), PySem.Spec.sameAll (nss.map rowD) (nss.map rowD) = true
  | [] => by simp [PySem.Spec.sameAll]
  | n :: r => by
    simp only [List.map_cons, PySem.Spec.sameAll, rowD, PySem.Spec.same, same_ints n n, Bool.and_eq_true]
    exact ⟨by simp, same_rows r⟩

theorem readsAll_rows {h : Heap} : ∀ {ps : List Addr} {nss : List (List Int)}, ps.length = nss.length → (∀ (i : Nat) p ns, ps[i]? = some p → nss[i]? = some ns → ∃ vs : List Value, h.IsList p vs.toArray ∧ IntsAre vs ns) → ∃ as, ReadsAll h (ps.map Value.ref) (nss.map rowD) as
  | [], [], _, _ => ⟨[], .nil⟩
  | p :: ps, ns :: nss, hl, hr => by
    obtain ⟨vs, h1, h2⟩ := hr 0 p ns rfl rfl
    obtain ⟨as, ih⟩ := readsAll_rows (ps := ps) (nss := nss) (by simpa using hl) fun i q ms a b => hr (i + 1) q ms a b
    exact ⟨_, .cons (reads_of_ints h1 h2) ih⟩

section
variable {prog : Program} {w : World} {A : Around} {E : Value → Shared → Prop} {s : Shared}
theorem ne_rows {a b : Addr} {ps qs : List Addr} {nss : List (List Int)} {Q : Value → Shared → Prop} (ha : s.heap.IsList a (ps.map Value.ref).toArray) (hb : s.heap.IsList b (qs.map Value.ref).toArray) (hlp : ps.length = nss.length) (hlq : qs.length = nss.length)
    (hp : ∀ (i : Nat) p ns, ps[i]? = some p → nss[i]? = some ns → ∃ vs : List Value, s.heap.IsList p vs.toArray ∧ IntsAre vs ns) (hq : ∀ (i : Nat) p ns, qs[i]? = some p → nss[i]? = some ns → ∃ vs : List Value, s.heap.IsList p vs.toArray ∧ IntsAre vs ns)
    (hu : A.units + 64 < cLine) (h : Q (.bool false) s) : wpAny (model prog w) A (compareOp .NotEq (.ref a) (.ref b)) Q E s := by
  obtain ⟨as, ra⟩ := readsAll_rows hlp hp
  obtain ⟨bs, rb⟩ := readsAll_rows hlq hq
  obtain ⟨oa, hoa, ca, na, da⟩ := ha
  obtain ⟨ob, hob, cb, nb, db⟩ := hb
  refine ne_dataH_same (Reads.list hoa ca da (by simpa using ra)) (Reads.list hob cb db (by simpa using rb)) (shaped_rows nss) (shaped_rows nss) hu (by simp only [noMix]; exact noMix_rows nss) ?_
  simp only [PySem.Spec.same]
  rw [same_rows]; exact h
end
end Mine

namespace Mine

section
variable {w : World} {A : Around} {E : Value → Shared → Prop} {s : Shared} {mg mb : Str → Option Value} {b : Heap} {L : Addr} {m : Loc} {ld : Ld} {env : Env}

set_option maxHeartbeats 4000000 in
theorem law_same {D F : Addr} {ps : List Addr} {cs : List CA} {nss : List (List Int)} {cells : List (Str × Addr)} {mm : Nat} {Q : Flow → Shared → Prop}
    (C : Cx (KK w) mg mb b) (r : Room A (mm + 2)) (e : EnvIs env (lawS w) L) (hcs : env.cells = cells) (z : Z b L m ld s.heap) (hD : m "pool" = some (.ref D)) (hF : m "clauses" = some (.ref F)) (hqD : ld D = some (lstO (ps.map .ref))) (hR : Rows2 ld ps nss) (h4 : ps.length = 4) (hW : ∀ ms ∈ nss, ms.length ≤ 5)
    (hqF : ld F = some (lstO (cs.map fun a => .ref a.c))) (hC : Cls b ld cs (nss.map dedup))
    (h : ∀ h' tk ld', Z b L m ld' h' → (∀ a o, ld a = some o → ld' a = some o) → Q .next { s with heap := h', toks := tk }) :
    wpAny (model PP w) A (exec ((lawB w).getD 3 (.Pass default)) env) Q (fun _ _ => False) s := by
  show wpAny _ _ (exec (.If (.Compare (.ListComp _ [⟨.Name "clause" _, .Name "clauses" _, [], 0⟩] _ _) _ [.ListComp _ [⟨.Name "wishes" _, .Name "pool" _, [], 0⟩] _ _] _) _ _ _) env) _ _ _
  have hcl4 : cs.length = 4 := by rw [hC.len, List.length_map, ← hR.1, h4]
  refine wpAny_If (wpAny_isTrue_Compare1 (lc hcs rfl (ev_loc e z hF ?_)))
  refine lc_list (cl := []) r e z hqF (by rw [List.size_toArray, List.length_map, hcl4, PySem.sizeLine_eq]; decide)
    (fun I F i ys l => (∀ a o, ld a = some o → l a = some o) ∧ ys = (cs.take i).map (fun a => Value.ref a.l)) ?_ ?_ ?_ ?_
  · intro I F ld₁ _ _ q; exact ⟨q, rfl⟩
  · rintro I F hI hF i ys l l' ⟨q1, q2⟩ q5
    refine ⟨fun a o q => ?_, q2⟩
    rw [q5 a (fun e => by rw [e, hI] at q; cases q) (fun e => by rw [e, hF] at q; cases q) (z.neL q)]; exact q1 a o q
  · rintro I C' F i v ys m₁ lq h₁ tk₁ hI hF hC' hv ⟨q1, q2⟩ hqx hqI hqF hqL eC z'
    obtain ⟨a, ha, rfl⟩ : ∃ a, cs[i]? = some a ∧ v = .ref a.c := by
      rw [List.getElem?_toArray, List.getElem?_map] at hv
      obtain ⟨p, hp, q⟩ := Option.map_eq_some_iff.mp hv
      exact ⟨p, hp, q.symm⟩
    obtain ⟨_, _, _, _, hcl⟩ := hC.get (List.mem_of_getElem? ha)
    obtain ⟨h1, h2, h3, t1, t2, t3, n, hd⟩ := hcl.dict
    refine wpAny_tests_nil ?_
    rw [if_pos rfl]
    refine Attribute_Name_ (ev_loc eC z' rfl (ga_own C z' (q1 _ _ hcl.inst) (q1 _ _ hd) rfl rfl rfl rfl rfl ?_))
    refine ⟨_, _, _, lq, rfl, z', ⟨q1, ?_⟩, fun _ _ => rfl⟩
    rw [q2, List.take_add_one, ha, List.map_append]; rfl
  rintro I F1 C1 ys lq mC h₁ tk₁ hF1 hF1n ⟨q1, q2⟩ hqF1 z hC1 hLC hns
  refine post_plain z hC1 hLC hns fun h₂ z => ?_
  rw [List.size_toArray, List.length_map, List.take_length] at q2
  subst q2
  refine lc hcs rfl (ev_loc e z hD ?_)
  refine lc_list (cl := []) r e z (q1 _ _ hqD) (by rw [List.size_toArray, List.length_map, h4, PySem.sizeLine_eq]; decide)
    (fun I F i ys l => (∀ a o, lq a = some o → l a = some o) ∧ ∃ qs, ys = qs.map Value.ref ∧ Rows2 l qs ((nss.take i).map dedup) ∧ ∀ k ∈ qs, k ≠ I ∧ k ≠ F ∧ k ≠ L) ?_ ?_ ?_ ?_
  · intro I F ld₁ _ _ q; exact ⟨q, [], rfl, ⟨rfl, fun _ _ _ h => by simp at h⟩, fun _ h => by simp at h⟩
  · rintro I F hI hF i ys l l' ⟨p1, qs, p2, p3, p4⟩ q5
    refine ⟨fun a o q => ?_, qs, p2, p3.mono fun k hk o q => ?_, p4⟩
    · rw [q5 a (fun e => by rw [e, hI] at q; cases q) (fun e => by rw [e, hF] at q; cases q) (z.neL q)]; exact p1 a o q
    · obtain ⟨a1, a2, a3⟩ := p4 k hk
      rw [q5 k a1 a2 a3]; exact q
  · rintro I C' F i v ys m₁ lr h₃ tk₃ hI hF hC' hv ⟨p1, qs, p2, p3, p4⟩ hrx hrI hrF hrL eC z'
    obtain ⟨p, hp, rfl⟩ : ∃ p, ps[i]? = some p ∧ v = .ref p := by
      rw [List.getElem?_toArray, List.getElem?_map] at hv
      obtain ⟨p, hp, q⟩ := Option.map_eq_some_iff.mp hv
      exact ⟨p, hp, q.symm⟩
    have hlt : i < nss.length := by rw [← hR.1]; exact (List.getElem?_eq_some_iff.mp hp).1
    obtain ⟨ys', hy1, hy2⟩ := hR.2 i p nss[i] hp (List.getElem?_eq_getElem hlt)
    refine wpAny_tests_nil ?_
    rw [if_pos rfl]
    refine Call_ (ev_glob eC C z' rfl (cw_K C rfl (args_cons (ev_loc eC z' rfl (args_nil ⟨z'.stays, ?_⟩)))))
    refine once_spec C z'.bs (r.le (by omega)) (z'.led _ _ (p1 _ _ (q1 _ _ hy1))) hy2 (Nat.le_trans (hW _ (List.getElem_mem hlt)) (by decide)) fun h₄ tk₄ k ys₄ ld' led hk hk0 hkn hk1 hk2 => ?_
    have hne : ∀ a o, lr a = some o → a ≠ k := fun a o q e => by have := z'.led _ _ q; rw [e, hk0] at this; cases this
    have z₂ := z'.calls (W := [k]) (fun c hc => by rw [List.mem_singleton.mp hc]; exact hkn) (fun hm => by
      obtain ⟨oC, hoC, _⟩ := LCg.ns_obj z'.ns
      rw [List.mem_singleton.mp hm, hk0] at hoC; cases hoC) led (fun a o _ q => hk a o q)
    have keep : ∀ a o, lr a = some o → mix [k] ld' lr a = some o := fun a o q => by
      rw [mix_out fun hm => hne a o q (List.mem_singleton.mp hm)]; exact q
    have htk : (nss.take (i + 1)).map dedup = (nss.take i).map dedup ++ [dedup nss[i]] := by
      rw [List.take_add_one, List.getElem?_eq_getElem hlt, List.map_append]; rfl
    obtain ⟨oI, hoI⟩ := Option.isSome_iff_exists.mp hrI
    obtain ⟨oL, hoL⟩ := Option.isSome_iff_exists.mp hrL
    refine ⟨h₄, tk₄, _, _, rfl, z₂, ⟨fun a o q => keep a o (p1 a o q), qs ++ [k], ?_, ?_, ?_⟩, fun a ha => ?_⟩
    · rw [List.map_append, p2]; rfl
    · rw [htk]
      exact (p3.mono fun k _ o q => keep k o q).snoc ((mix_in (List.mem_singleton.mpr rfl)).trans hk1) hk2
    · intro k' hk'
      rcases List.mem_append.mp hk' with h1 | h1
      · exact p4 k' h1
      · rw [List.mem_singleton.mp h1]
        exact ⟨Ne.symm (hne I oI hoI), Ne.symm (hne F _ hrF), Ne.symm (hne L oL hoL)⟩
    · simp only [List.mem_cons, List.not_mem_nil, or_false] at ha
      rcases ha with rfl | rfl | rfl | rfl
      · rw [keep _ _ hoI, hoI]
      · rw [keep _ _ hrx, hrx]
      · rw [keep _ _ hrF, hrF]
      · rw [keep _ _ hoL, hoL]
  rintro I2 F2 C2 ys2 lr mC2 h₃ tk₃ hF2 hF2n ⟨p1, qs, p2, p3, p4⟩ hrF2 z hC2 hLC2 hns2
  refine post_plain z hC2 hLC2 hns2 fun h₄ z => ?_
  rw [List.size_toArray, List.length_map, hR.1, List.take_length] at p3
  subst p2
  refine ne_rows (ps := cs.map CA.l) (qs := qs) (nss := nss.map dedup) (by have := z.isL (p1 _ _ hqF1); rw [List.map_map]; exact this) (z.isList hrF2) (by rw [List.length_map, hC.len]) p3.1 ?_ ?_ r.unit64 (wpAny_truthy_bool ?_)
  · intro i k ns h1 h2
    rw [List.getElem?_map] at h1
    obtain ⟨a, ha, rfl⟩ := Option.map_eq_some_iff.mp h1
    obtain ⟨vs, n, q3, q4⟩ := (hC.cl i a ns ha h2).list
    exact ⟨vs, z.isL (p1 _ _ (q1 _ _ q3)), q4⟩
  · intro i k ns h1 h2
    obtain ⟨ys, q3, q4⟩ := p3.2 i k ns h1 h2
    exact ⟨ys, z.isL q3, q4⟩
  rw [if_neg (by decide)]
  exact wpAny_execs_nil (h _ _ _ z fun a o q => p1 _ _ (q1 _ _ q))
end
end Mine

namespace Mine

/-- a watched wish is refused in p only where the other is granted or every unwatched one is refused -/
def okPair (p : List Int) : List Int → Prop
  | x :: y :: rest => (-x ∈ p → y ∈ p ∨ ∀ k ∈ rest, -k ∈ p) ∧ (-y ∈ p → x ∈ p ∨ ∀ k ∈ rest, -k ∈ p)
  | _ => True
def Watch (hs lits : List Int) : Prop := ∀ j, okPair (hs.take j) lits

theorem okPair.other {p : List Int} {x y won : Int} {rest : List Int} (hin : -won ∈ (x :: y :: rest).take 2) (h : okPair p (x :: y :: rest)) : okPair p (rwOther x y won :: -won :: rest) := by
  unfold rwOther
  simp only [List.take_succ_cons, List.take_zero, List.mem_cons, List.not_mem_nil, or_false] at hin
  split
  · rename_i q; rw [← q]; exact ⟨h.2, h.1⟩
  · rename_i q; rw [hin.resolve_left fun e => q e.symm]; exact h

theorem Watch.nil (lits : List Int) : Watch [] lits := fun j => by
  rw [List.take_nil]
  match lits with
  | [] => trivial
  | [_] => trivial
  | _ :: _ :: _ => exact ⟨fun h => by simp at h, fun h => by simp at h⟩
theorem Watch.full {hs lits : List Int} (h : Watch hs lits) : okPair hs lits := by have := h hs.length; rwa [List.take_length] at this
theorem Watch.pop {hs lits : List Int} (h : Watch hs lits) : Watch hs.dropLast lits := fun j => by
  rw [List.dropLast_eq_take, List.take_take]; exact h _

theorem okPair.mono_or {hs lits : List Int} {won : Int} (h : okPair hs lits) (hn : -won ∉ lits.take 2) : okPair (hs ++ [won]) lits := by
  match lits, h, hn with
  | [], _, _ => trivial
  | [_], _, _ => trivial
  | x :: y :: rest, h, hn =>
    simp only [List.take_succ_cons, List.take_zero, List.mem_cons, List.not_mem_nil, or_false, not_or] at hn
    have key : ∀ a b : Int, -won ≠ a → (-a ∈ hs → b ∈ hs ∨ ∀ k ∈ rest, -k ∈ hs) → (-a ∈ hs ++ [won] → b ∈ hs ++ [won] ∨ ∀ k ∈ rest, -k ∈ hs ++ [won]) := fun a b q1 q2 q3 => by
      rcases List.mem_append.mp q3 with q3 | q3
      · rcases q2 q3 with q4 | q4
        · exact .inl (List.mem_append_left _ q4)
        · exact .inr fun k hk => List.mem_append_left _ (q4 k hk)
      · exact absurd (by rw [← List.mem_singleton.mp q3]; omega) q1
    exact ⟨key x y hn.1 h.1, key y x hn.2 h.2⟩

theorem take_snoc (hs : List Int) (won : Int) (j : Nat) : (hs ++ [won]).take j = hs.take j ∨ (hs ++ [won]).take j = hs ++ [won] := by
  by_cases h : j ≤ hs.length
  · exact .inl (List.take_append_of_le_length h)
  · exact .inr (List.take_of_length_le (by rw [List.length_append]; simp; omega))

theorem Watch.push {hs lits : List Int} {won : Int} (h : Watch hs lits) (hn : -won ∉ lits.take 2) : Watch (hs ++ [won]) lits := fun j => by
  rcases take_snoc hs won j with q | q <;> rw [q]
  · exact h j
  · exact h.full.mono_or hn

theorem Watch.moved {f : Int → Option Bool} {hs : List Int} {x y won : Int} {rest : List Int} (h : Watch hs (x :: y :: rest)) (hin : -won ∈ (x :: y :: rest).take 2) (hnd : (x :: y :: rest).Nodup)
    (hf : HeldIs f (hs ++ [won])) (h1 : won ∉ hs) (h2 : -won ∉ hs) : Watch (hs ++ [won]) (rwAfter f (x :: y :: rest) won) := by
  have hnd' : (rwOther x y won :: -won :: rest).Nodup := (other_perm hin).nodup_iff.mpr hnd
  have hW : ∀ j, okPair (hs.take j) (rwOther x y won :: -won :: rest) := fun j => (h j).other hin
  have hsub : ∀ j k, k ∈ hs.take j → k ∈ hs := fun j k q => List.mem_of_mem_take q
  have star : ∀ j, -(rwOther x y won) ∈ hs.take j → ∀ k ∈ rest, -k ∈ hs.take j := fun j q => ((hW j).1 q).resolve_left fun q' => h2 (hsub _ _ q')
  have hown : rwOther x y won ≠ -won := fun q => by
    rw [List.nodup_cons] at hnd'
    exact hnd'.1 (by rw [q]; exact .head _)
  have vac : ∀ j, ¬ (- -won) ∈ hs.take j := fun j q => h1 (by have := hsub _ _ q; rwa [Int.neg_neg] at this)
  have full : ∀ k, k ∈ hs ++ [won] ↔ k ∈ hs ∨ k = won := fun k => by rw [List.mem_append, List.mem_singleton]
  intro j
  rcases rwAfter_shape (f := f) hin with ⟨g1, g2, _⟩ | ⟨g1, n, c, g3, g4, g2, _⟩ | ⟨g1, g3, g2, _⟩
  · rw [g2]
    have hoh := (hf _).1.mp g1
    rcases take_snoc hs won j with q | q <;> rw [q]
    · exact hW j
    · refine ⟨fun q' => ?_, fun _ => .inl hoh⟩
      have := (hf (rwOther x y won)).2.mpr q'
      rw [g1] at this; cases this
  · rw [g2]
    have hc : -c ∉ hs ++ [won] := fun q => g4 ((hf c).2.mpr q)
    have hcr : c ∈ rest := List.mem_of_getElem? g3
    have ho : -(rwOther x y won) ∉ hs := fun q => hc (List.mem_append_left _ (hsub _ _ (star hs.length (by rw [List.take_length]; exact q) c hcr)))
    rcases take_snoc hs won j with q | q <;> rw [q]
    · exact ⟨fun q' => absurd (hsub _ _ q') ho, fun q' => absurd (List.mem_append_left _ (hsub _ _ q')) hc⟩
    · refine ⟨fun q' => ?_, fun q' => absurd q' hc⟩
      rcases (full _).mp q' with q' | q'
      · exact absurd q' ho
      · exact absurd (by omega) hown
  · rw [g2]
    have hall : ∀ k ∈ rest, -k ∈ hs ++ [won] := fun k hk => (hf k).2.mp (g3 k hk)
    rcases take_snoc hs won j with q | q <;> rw [q]
    · exact hW j
    · exact ⟨fun _ => .inr hall, fun _ => .inr hall⟩

/-- what is held: names apart, 1 to 9 -/
structure HsOk (hs : List Int) : Prop where
  apart : (hs.map Int.natAbs).Nodup
  rng : ∀ k ∈ hs, 1 ≤ k.natAbs ∧ k.natAbs ≤ 9

theorem HsOk.nil : HsOk [] := ⟨by simp, fun _ h => by simp at h⟩
theorem HsOk.push {hs : List Int} {won name : Int} (h : HsOk hs) (hn : 1 ≤ name ∧ name ≤ 9) (hw : won = name ∨ won = -name) (h1 : name ∉ hs) (h2 : -name ∉ hs) : HsOk (hs ++ [won]) := by
  refine ⟨?_, fun k hk => ?_⟩
  · rw [List.map_append, List.nodup_append]
    refine ⟨h.apart, by simp, fun a ha b hb => ?_⟩
    obtain ⟨k, hk, rfl⟩ := List.mem_map.mp ha
    simp only [List.map_cons, List.map_nil, List.mem_singleton] at hb
    intro e
    have : k = name ∨ k = -name := by omega
    rcases this with rfl | rfl
    · exact h1 hk
    · exact h2 hk
  · rcases List.mem_append.mp hk with q | q
    · exact h.rng k q
    · rw [List.mem_singleton.mp q]; omega
theorem HsOk.pop {hs : List Int} (h : HsOk hs) : HsOk hs.dropLast := by
  refine ⟨?_, fun k hk => h.rng k (List.dropLast_subset _ hk)⟩
  exact h.apart.sublist ((List.dropLast_sublist hs).map _)
theorem HsOk.len {hs : List Int} (h : HsOk hs) : hs.length ≤ 19 :=
  rng_le (List.Pairwise.imp (fun q e => q (by rw [e])) (List.pairwise_map.mp h.apart)) fun k hk => by have := h.rng k hk; omega

theorem HeldIs.push {f : Int → Option Bool} {hs : List Int} {won name : Int} {c : Bool} (h : HeldIs f hs) (hn : 1 ≤ name) (hw : won = if c = true then name else -name) (h1 : name ∉ hs) (h2 : -name ∉ hs) :
    HeldIs (fun i => if i = -name then some (!c) else if i = name then some c else f i) (hs ++ [won]) := by
  intro k
  have full : ∀ k, k ∈ hs ++ [won] ↔ k ∈ hs ∨ k = won := fun k => by rw [List.mem_append, List.mem_singleton]
  rw [full, full]
  by_cases q1 : k = -name
  · subst q1
    simp only [if_true]
    cases c <;> simp only [Bool.false_eq_true, if_false, if_true] at hw <;> subst hw <;> simp [h1, h2] <;> omega
  · by_cases q2 : k = name
    · subst q2
      simp only [if_neg q1, if_true]
      cases c <;> simp only [Bool.false_eq_true, if_false, if_true] at hw <;> subst hw <;> simp [h1, h2] <;> omega
    · simp only [if_neg q1, if_neg q2]
      have hne : k ≠ won ∧ -k ≠ won := by cases c <;> simp only [Bool.false_eq_true, if_false, if_true] at hw <;> omega
      rw [(h k).1, (h k).2]
      simp [hne.1, hne.2]

theorem HeldIs.pop {f : Int → Option Bool} {hs : List Int} {won : Int} (h : HeldIs f (hs ++ [won])) (ok : HsOk (hs ++ [won])) :
    HeldIs (fun i => if i = -(won.natAbs : Int) then none else if i = (won.natAbs : Int) then none else f i) hs := by
  intro k
  have full : ∀ k, k ∈ hs ++ [won] ↔ k ∈ hs ∨ k = won := fun k => by rw [List.mem_append, List.mem_singleton]
  have hno : ∀ a ∈ hs, a.natAbs ≠ won.natAbs := fun a ha e => by
    have := ok.apart
    rw [List.map_append, List.nodup_append] at this
    exact this.2.2 _ (List.mem_map_of_mem ha) _ (by simp) e
  by_cases q1 : k = -(won.natAbs : Int)
  · simp only [if_pos q1]
    exact ⟨⟨(fun q => by cases q), fun q => absurd (by omega) (hno k q)⟩, ⟨(fun q => by cases q), fun q => absurd (by omega) (hno (-k) q)⟩⟩
  · by_cases q2 : k = (won.natAbs : Int)
    · simp only [if_neg q1, if_pos q2]
      exact ⟨⟨(fun q => by cases q), fun q => absurd (by omega) (hno k q)⟩, ⟨(fun q => by cases q), fun q => absurd (by omega) (hno (-k) q)⟩⟩
    · simp only [if_neg q1, if_neg q2]
      have hk := h k
      rw [full, full] at hk
      have hne : k ≠ won ∧ -k ≠ won := by omega
      simpa [hne.1, hne.2] using hk

def optV : Option Bool → Value
  | none => .none
  | some c => .bool c
/-- want holds what was set -/
def WantIs (kvs : List (Int × Value)) (f : Int → Option Bool) (seen : List Int) : Prop := ∀ k, valueAt kvs k = if k ∈ seen then some (optV (f k)) else none
theorem WantIs.set {kvs : List (Int × Value)} {f f' : Int → Option Bool} {seen seen' : List Int} {n : Int} (h : WantIs kvs f seen) (hr : ∀ k ∈ seen, 1 ≤ k ∧ k ≤ 9) (hn : 1 ≤ n) (hf : ∀ k, k ≠ n → k ≠ -n → f' k = f k) (hs : ∀ k, k ∈ seen' ↔ k = n ∨ k ∈ seen) :
    WantIs (stored kvs n (optV (f' n))) f' seen' := by
  intro k
  rw [valueAt_stored]
  by_cases q : k = n
  · rw [if_pos q, if_pos ((hs k).mpr (.inl q)), q]
  · rw [if_neg q, h k]
    by_cases q2 : k ∈ seen
    · rw [if_pos q2, if_pos ((hs k).mpr (.inr q2)), hf k q (by have := hr k q2; omega)]
    · rw [if_neg q2, if_neg fun q3 => q2 (((hs k).mp q3).resolve_left q)]
end Mine

namespace Mine
section
variable {prog : Program} {w : World} {A : Around} {E : Value → Shared → Prop} {s : Shared} {K : Frag} {mg mb : Str → Option Value} {b : Heap} {L : Addr} {m : Str → Option Value} {ld : Ld} {env : Env} {sc : Scope}
theorem lm_pop {l : Addr} {its : Array Value} {n : Nat} {pl : Sem Bool} {Q : Value × List Value → Shared → Prop} (z : Z b L m ld s.heap) (hl : ld l = some (listOf its n)) (h : Q (.builtin "list.pop", [.ref l]) s) :
    wpAny (model prog w) A (getMethod (.ref l) "pop" pl) Q E s :=
  getMethod_builtin ⟨_, z.led _ _ hl, rfl⟩ PySem.F.plainAttrs_list PySem.F.slot_list_pop PySem.F.type_list_pop (fun a e => by cases e; exact ⟨_, z.led _ _ hl, rfl⟩) h
theorem l_pop {l : Addr} {p : List Value} {y : Value} {n : Nat} {Q : Value → Shared → Prop} (z : Z b L m ld s.heap) (hl : ld l = some (listOf (p ++ [y]).toArray n)) (hn : New b l) (hz : p.length ≤ 1000)
    (h : ∀ h', Z b L m (upd ld l (listOf p.toArray (n + 1))) h' → Q y { s with heap := h' }) : wpAny (model prog w) A (call (.builtin "list.pop") [.ref l]) Q E s := by
  have hz' : (p ++ [y]).toArray.size ≤ sizeLine := by rw [List.size_toArray, List.length_append, PySem.sizeLine_eq]; simp; omega
  have hk : (p ++ [y]).toArray.size - 1 = p.length := by rw [List.size_toArray, List.length_append]; rfl
  have hy : (p ++ [y]).toArray[(p ++ [y]).toArray.size - 1]? = some y := by rw [hk]; simp
  refine call_meets PySem.F.slot_list_pop ⟨_, z.led _ _ hl, rfl⟩ PySem.F.entry_list_pop (PySem.F.args_list_pop_1 _) (PySem.MeetsSeq.list_pop_last l _ n y hy hz') ⟨z.led _ _ hl, h _ (z.sameBut hl (New.none hn) (Heap.SameBut.update ..) ?_)⟩
  have q := PySem.IsL.update (z.led _ _ hl) (fun xs => xs.eraseIdxIfInBounds ((p ++ [y]).toArray.size - 1))
  have he : (p ++ [y]).toArray.eraseIdxIfInBounds ((p ++ [y]).toArray.size - 1) = p.toArray := by rw [hk, kl_erase, List.append_nil]
  rw [he, if_neg (by rw [List.size_toArray, List.size_toArray, List.length_append]; simp)] at q
  exact q
end
end Mine

namespace Mine

/-- everything that law has at hand, at a moment; mid: the clauses from i on are still as at hs₀ -/
structure LS (w : World) (b : Heap) (L : Addr) (m : Loc) (ld : Ld) (wc fc nl cD hl wd : Addr) (ns : List Int) (cs : List CA) (litss : List (List Int)) (p : AsAddr) (f : Int → Option Bool) (seen asg hs : List Int) (kvs : List (Int × Value)) : Prop where
  mn : m "numbers" = some (.ref nl)
  mc : m "clauses" = some (.ref cD)
  ma : m "assignments" = some (.ref p.a)
  mh : m "held" = some (.ref hl)
  nums : ∃ vs n, ld nl = some (listOf vs.toArray n) ∧ IntsAre vs ns
  ns0 : ns ≠ []
  nsl : ns.length ≤ 24
  cls : ld cD = some (lstO (cs.map fun a => .ref a.c))
  cl : Cls b ld cs litss
  c4 : cs.length = 4
  ok : p.Ok b
  as : AS PP w ld p f seen asg
  held : ∃ vs n, ld hl = some (listOf vs.toArray n) ∧ IntsAre vs hs
  hln : New b hl
  want : CellIs ld wc (some (.ref wd))
  found : ∃ ov, CellIs ld fc ov
  wdo : ∃ o, ld wd = some o ∧ o.IsDictOf (intKind PP w) kvs
  wdn : New b wd
  d1 : hl ≠ nl ∧ hl ≠ cD ∧ ∀ a ∈ cs, a.l ≠ hl ∧ a.l ≠ nl ∧ a.l ≠ cD
  d2 : wd ∉ p.W
  d3 : ∀ a ∈ cs, a.d ∉ p.W ∧ a.d ≠ wd

section
variable {w : World} {A : Around} {E : Value → Shared → Prop} {s : Shared} {mg mb : Str → Option Value} {b : Heap} {L : Addr} {m : Loc} {ld : Ld} {env : Env}
  {wc fc nl cD hl wd : Addr} {ns : List Int} {cs : List CA} {litss : List (List Int)} {p : AsAddr} {f : Int → Option Bool} {seen asg hs : List Int} {kvs : List (Int × Value)}

/-- the class of what lies there -/
theorem LS.keep {m' : Loc} {ld' : Ld} (S : LS w b L m ld wc fc nl cD hl wd ns cs litss p f seen asg hs kvs) (hm : ∀ x, x ∈ [("numbers" : Str), "clauses", "assignments", "held"] → m' x = m x) (hk : ∀ a o, ld a = some o → ld' a = some o) :
    LS w b L m' ld' wc fc nl cD hl wd ns cs litss p f seen asg hs kvs :=
  { S with
    mn := (hm _ (by simp)).trans S.mn
    mc := (hm _ (by simp)).trans S.mc
    ma := (hm _ (by simp)).trans S.ma
    mh := (hm _ (by simp)).trans S.mh
    nums := let ⟨vs, n, a, r⟩ := S.nums; ⟨vs, n, hk _ _ a, r⟩
    cls := hk _ _ S.cls
    cl := S.cl.mono fun _ _ k _ o q => hk k o q
    as := by
      obtain ⟨h1, h2, h3, h4, h5, h6, t1, t2, t3, t4, t5, t6, n, q0⟩ := S.as.dict
      obtain ⟨o1, k1, q1, r1⟩ := S.as.data
      obtain ⟨o2, k2, q2, r2⟩ := S.as.orig
      obtain ⟨o3, q3, r3⟩ := S.as.seen
      obtain ⟨o4, q4, r4⟩ := S.as.asg
      obtain ⟨o5, k5, q5, r5⟩ := S.as.nk
      exact ⟨hk _ _ S.as.inst, ⟨h1, h2, h3, h4, h5, h6, t1, t2, t3, t4, t5, t6, n, hk _ _ q0⟩, ⟨o1, k1, hk _ _ q1, r1⟩, ⟨o2, k2, hk _ _ q2, r2⟩, ⟨o3, hk _ _ q3, r3⟩, ⟨o4, hk _ _ q4, r4⟩, ⟨o5, k5, hk _ _ q5, r5⟩⟩
    held := let ⟨vs, n, a, r⟩ := S.held; ⟨vs, n, hk _ _ a, r⟩
    want := let ⟨o, a, r⟩ := S.want; ⟨o, hk _ _ a, r⟩
    found := let ⟨ov, o, a, r⟩ := S.found; ⟨ov, o, hk _ _ a, r⟩
    wdo := let ⟨o, a, r⟩ := S.wdo; ⟨o, hk _ _ a, r⟩ }


theorem ne_of_obj {ld : Ld} {a c : Addr} {oa oc : Obj} (ha : ld a = some oa) (hc : ld c = some oc) (h : oa.data ≠ oc.data) : a ≠ c := fun e => by subst e; rw [ha] at hc; cases hc; exact h rfl
theorem as_notList {ld : Ld} (S : AS PP w ld p f seen asg) {l : Addr} {items : Array Value} {n : Nat} (hl : ld l = some (listOf items n)) : p.a ≠ l ∧ ∀ c ∈ p.W, c ≠ l := by
  obtain ⟨h1, h2, h3, h4, h5, h6, t1, t2, t3, t4, t5, t6, nn, hdict⟩ := S.dict
  obtain ⟨o1, kvs1, hx1, hk1, _⟩ := S.data
  obtain ⟨o2, kvs2, hx2, hk2, _⟩ := S.orig
  obtain ⟨o3, hx3, hk3, _⟩ := S.seen
  obtain ⟨o4, hx4, hk4, _⟩ := S.asg
  obtain ⟨o5, _, hx5, hk5, _⟩ := S.nk
  refine ⟨ne_of_cls S.inst hl (by simp), fun c hc => ?_⟩
  simp only [AsAddr.W, List.mem_cons, List.not_mem_nil, or_false] at hc
  rcases hc with rfl | rfl | rfl | rfl | rfl | rfl
  · exact ne_of_cls hdict hl (by simp)
  · exact ne_of_cls hx1 hl (by rw [dictOf_cls hk1]; simp)
  · exact ne_of_cls hx2 hl (by rw [dictOf_cls hk2]; simp)
  · exact ne_of_cls hx3 hl (by rw [setK_cls hk3]; simp)
  · exact ne_of_cls hx4 hl (by rw [setK_cls hk4]; simp)
  · exact ne_of_cls hx5 hl (by rw [setK_cls hk5]; simp)
theorem as_clsW {ld : Ld} (S : AS PP w ld p f seen asg) {c : Addr} (hc : c ∈ p.W) : ∃ o, ld c = some o ∧ (o.cls = .type "dict" ∨ o.cls = .type "set") := by
  obtain ⟨h1, h2, h3, h4, h5, h6, t1, t2, t3, t4, t5, t6, nn, hdict⟩ := S.dict
  obtain ⟨o1, kvs1, hx1, hk1, _⟩ := S.data
  obtain ⟨o2, kvs2, hx2, hk2, _⟩ := S.orig
  obtain ⟨o3, hx3, hk3, _⟩ := S.seen
  obtain ⟨o4, hx4, hk4, _⟩ := S.asg
  obtain ⟨o5, _, hx5, hk5, _⟩ := S.nk
  simp only [AsAddr.W, List.mem_cons, List.not_mem_nil, or_false] at hc
  rcases hc with rfl | rfl | rfl | rfl | rfl | rfl
  · exact ⟨_, hdict, .inl rfl⟩
  · exact ⟨_, hx1, .inl (dictOf_cls hk1)⟩
  · exact ⟨_, hx2, .inl (dictOf_cls hk2)⟩
  · exact ⟨_, hx3, .inr (setK_cls hk3)⟩
  · exact ⟨_, hx4, .inr (setK_cls hk4)⟩
  · exact ⟨_, hx5, .inr (setK_cls hk5)⟩

/-- held turned -/
theorem LS.setHeld {vs' : List Value} {hs' : List Int} {n' : Nat} (S : LS w b L m ld wc fc nl cD hl wd ns cs litss p f seen asg hs kvs) (hi : IntsAre vs' hs') :
    LS w b L m (upd ld hl (listOf vs'.toArray n')) wc fc nl cD hl wd ns cs litss p f seen asg hs' kvs := by
  obtain ⟨vs, n, h1, h2⟩ := S.held
  obtain ⟨nA, nW⟩ := as_notList S.as h1
  obtain ⟨oc, q1, q2⟩ := S.want
  obtain ⟨ov, oc', q1', q2'⟩ := S.found
  obtain ⟨ow, q3, q4⟩ := S.wdo
  obtain ⟨nvs, nn, q5, q6⟩ := S.nums
  exact { S with
    nums := ⟨nvs, nn, (upd_ne S.d1.1.symm).trans q5, q6⟩
    cls := (upd_ne S.d1.2.1.symm).trans S.cls
    cl := S.cl.mono fun a ha k hk o q => by
      rw [upd_ne ?_]; exact q
      obtain ⟨i, lits, _, _, hc⟩ := S.cl.get ha
      obtain ⟨_, _, _, _, _, _, _, hd⟩ := hc.dict
      simp only [CA.all, List.mem_cons, List.not_mem_nil, or_false] at hk
      rcases hk with rfl | rfl | rfl
      · exact ne_of_cls hc.inst h1 (by simp)
      · exact ne_of_cls hd h1 (by simp)
      · exact (S.d1.2.2 a ha).1
    as := S.as.congr (upd_ne nA) fun c hc => upd_ne (nW c hc)
    held := ⟨vs', n', upd_self, hi⟩
    want := ⟨oc, (upd_ne (ne_of_obj q1 h1 (by rw [q2]; simp))).trans q1, q2⟩
    found := ⟨ov, oc', (upd_ne (ne_of_obj q1' h1 (by rw [q2']; simp))).trans q1', q2'⟩
    wdo := ⟨ow, (upd_ne (ne_of_cls q3 h1 (by rw [dictOf_cls q4]; simp))).trans q3, q4⟩ }

/-- want turned -/
theorem LS.setWant {o' : Obj} {kvs' : List (Int × Value)} (S : LS w b L m ld wc fc nl cD hl wd ns cs litss p f seen asg hs kvs) (hk' : o'.IsDictOf (intKind PP w) kvs') :
    LS w b L m (upd ld wd o') wc fc nl cD hl wd ns cs litss p f seen asg hs kvs' := by
  obtain ⟨ow, q3, q4⟩ := S.wdo
  obtain ⟨vs, n, h1, h2⟩ := S.held
  obtain ⟨oc, q1, q2⟩ := S.want
  obtain ⟨ov, oc', q1', q2'⟩ := S.found
  obtain ⟨nvs, nn, q5, q6⟩ := S.nums
  have hdat : ∃ es n, ow.data = .dict es n := by obtain ⟨es, ep, hex, hd, _⟩ := q4; exact ⟨_, _, hd⟩
  obtain ⟨es, en, hdat⟩ := hdat
  exact { S with
    nums := ⟨nvs, nn, (upd_ne (ne_of_cls q5 q3 (by rw [dictOf_cls q4]; simp))).trans q5, q6⟩
    cls := (upd_ne (ne_of_cls S.cls q3 (by rw [dictOf_cls q4]; simp))).trans S.cls
    cl := S.cl.mono fun a ha k hk o q => by
      rw [upd_ne ?_]; exact q
      obtain ⟨i, lits, _, _, hc⟩ := S.cl.get ha
      obtain ⟨_, _, hl', _⟩ := hc.list
      simp only [CA.all, List.mem_cons, List.not_mem_nil, or_false] at hk
      rcases hk with rfl | rfl | rfl
      · exact ne_of_cls hc.inst q3 (by rw [dictOf_cls q4]; simp)
      · exact (S.d3 a ha).2
      · exact ne_of_cls hl' q3 (by rw [dictOf_cls q4]; simp)
    as := S.as.congr (upd_ne (ne_of_cls S.as.inst q3 (by rw [dictOf_cls q4]; simp))) fun c hc => upd_ne fun e => S.d2 (e ▸ hc)
    held := ⟨vs, n, (upd_ne (ne_of_cls h1 q3 (by rw [dictOf_cls q4]; simp))).trans h1, h2⟩
    want := ⟨oc, (upd_ne (ne_of_obj q1 q3 (by rw [q2, hdat]; simp))).trans q1, q2⟩
    found := ⟨ov, oc', (upd_ne (ne_of_obj q1' q3 (by rw [q2', hdat]; simp))).trans q1', q2'⟩
    wdo := ⟨o', upd_self, hk'⟩ }

theorem setK_data {w : World} {o : Obj} {ks : List Int} (h : SetK w o ks) : ∃ es ep t, o.data = .set es ep t := by obtain ⟨es, ep, t, rfl, _⟩ := h; exact ⟨_, _, _, rfl⟩
theorem dictOf_data {o : Obj} {kvs : List (Int × Value)} (h : o.IsDictOf (intKind PP w) kvs) : ∃ es ep, o.data = .dict es ep := by obtain ⟨es, ep, hex, hd, _⟩ := h; exact ⟨_, _, hd⟩
theorem as_cellW {ld : Ld} (S : AS PP w ld p f seen asg) {c : Addr} {ov : Option Value} (hc : CellIs ld c ov) : c ∉ p.W := fun hm => by
  obtain ⟨oc, q1, q2⟩ := hc
  obtain ⟨h1, h2, h3, h4, h5, h6, t1, t2, t3, t4, t5, t6, nn, hdict⟩ := S.dict
  obtain ⟨o1, kvs1, hx1, hk1, _⟩ := S.data
  obtain ⟨o2, kvs2, hx2, hk2, _⟩ := S.orig
  obtain ⟨o3, hx3, hk3, _⟩ := S.seen
  obtain ⟨o4, hx4, hk4, _⟩ := S.asg
  obtain ⟨o5, _, hx5, hk5, _⟩ := S.nk
  simp only [AsAddr.W, List.mem_cons, List.not_mem_nil, or_false] at hm
  rcases hm with e | e | e | e | e | e
  · exact ne_of_obj q1 hdict (by rw [q2]; simp) e
  · obtain ⟨_, _, q⟩ := dictOf_data hk1; exact ne_of_obj q1 hx1 (by rw [q2, q]; simp) e
  · obtain ⟨_, _, q⟩ := dictOf_data hk2; exact ne_of_obj q1 hx2 (by rw [q2, q]; simp) e
  · obtain ⟨_, _, _, q⟩ := setK_data hk3; exact ne_of_obj q1 hx3 (by rw [q2, q]; simp) e
  · obtain ⟨_, _, _, q⟩ := setK_data hk4; exact ne_of_obj q1 hx4 (by rw [q2, q]; simp) e
  · obtain ⟨_, _, _, q⟩ := setK_data hk5; exact ne_of_obj q1 hx5 (by rw [q2, q]; simp) e
theorem as_clsNot {ld : Ld} (S : AS PP w ld p f seen asg) {c : Addr} {o : Obj} (hc : ld c = some o) (h1 : o.cls ≠ .type "dict") (h2 : o.cls ≠ .type "set") : c ∉ p.W := fun hm => by
  obtain ⟨o', q1, q2⟩ := as_clsW S hm
  rw [hc] at q1; cases q1
  rcases q2 with q | q
  · exact h1 q
  · exact h2 q

/-- the table turned -/
theorem LS.setAs {ld' : Ld} {f' : Int → Option Bool} {seen' asg' : List Int} (S : LS w b L m ld wc fc nl cD hl wd ns cs litss p f seen asg hs kvs) (S' : AS PP w ld' p f' seen' asg') :
    LS w b L m (mix p.W ld' ld) wc fc nl cD hl wd ns cs litss p f' seen' asg' hs kvs := by
  obtain ⟨ow, q3, q4⟩ := S.wdo
  obtain ⟨vs, n, h1, h2⟩ := S.held
  obtain ⟨oc, q1, q2⟩ := S.want
  obtain ⟨ov, oc', q1', q2'⟩ := S.found
  obtain ⟨nvs, nn, q5, q6⟩ := S.nums
  exact { S with
    nums := ⟨nvs, nn, (mix_out (as_clsNot S.as q5 (by simp) (by simp))).trans q5, q6⟩
    cls := (mix_out (as_clsNot S.as S.cls (by simp) (by simp))).trans S.cls
    cl := S.cl.mono fun a ha k hk o q => by
      rw [mix_out ?_]; exact q
      obtain ⟨i, lits, _, _, hc⟩ := S.cl.get ha
      obtain ⟨_, _, hl', _⟩ := hc.list
      simp only [CA.all, List.mem_cons, List.not_mem_nil, or_false] at hk
      rcases hk with rfl | rfl | rfl
      · exact as_clsNot S.as hc.inst (by simp) (by simp)
      · exact (S.d3 a ha).1
      · exact as_clsNot S.as hl' (by simp) (by simp)
    as := S.as.mixed S'
    held := ⟨vs, n, (mix_out (as_clsNot S.as h1 (by simp) (by simp))).trans h1, h2⟩
    want := ⟨oc, (mix_out (as_cellW S.as S.want)).trans q1, q2⟩
    found := ⟨ov, oc', (mix_out (as_cellW S.as ⟨oc', q1', q2'⟩)).trans q1', q2'⟩
    wdo := ⟨ow, (mix_out S.d2).trans q3, q4⟩ }

/-- a clause's list turned -/
theorem LS.setLits {i : Nat} {a : CA} {vs' : List Value} {lits lits' : List Int} {n' : Nat} (S : LS w b L m ld wc fc nl cD hl wd ns cs litss p f seen asg hs kvs) (ha : cs[i]? = some a) (hl0 : litss[i]? = some lits) (hi : IntsAre vs' lits') :
    LS w b L m (upd ld a.l (listOf vs'.toArray n')) wc fc nl cD hl wd ns cs (litss.set i lits') p f seen asg hs kvs := by
  have hc := S.cl.cl i a lits ha hl0
  obtain ⟨cvs, cn, h1, h2⟩ := hc.list
  obtain ⟨nA, nW⟩ := as_notList S.as h1
  obtain ⟨oc, q1, q2⟩ := S.want
  obtain ⟨ov, oc', q1', q2'⟩ := S.found
  obtain ⟨ow, q3, q4⟩ := S.wdo
  obtain ⟨nvs, nn, q5, q6⟩ := S.nums
  obtain ⟨vs, n, q7, q8⟩ := S.held
  obtain ⟨d1, d2, d3⟩ := S.d1.2.2 a (List.mem_of_getElem? ha)
  exact { S with
    nums := ⟨nvs, nn, (upd_ne d2.symm).trans q5, q6⟩
    cls := (upd_ne d3.symm).trans S.cls
    cl := by
      refine ⟨by rw [List.length_set]; exact S.cl.len, fun j a' ms h3 h4 => ?_, S.cl.new, S.cl.apart⟩
      by_cases hij : i = j
      · subst hij
        rw [ha] at h3; cases h3
        have hlt : i < litss.length := (List.getElem?_eq_some_iff.mp hl0).1
        rw [List.getElem?_set_self hlt] at h4; cases h4
        obtain ⟨g1, g2, g3, t1, t2, t3, gn, hd⟩ := hc.dict
        exact ⟨(upd_ne (ne_of_cls hc.inst h1 (by simp))).trans hc.inst, ⟨g1, g2, g3, t1, t2, t3, gn, (upd_ne (ne_of_cls hd h1 (by simp))).trans hd⟩, ⟨vs', n', upd_self, hi⟩⟩
      · rw [List.getElem?_set_ne hij] at h4
        have hc' := S.cl.cl j a' ms h3 h4
        refine hc'.congr fun k hk o q => ?_
        rw [upd_ne ?_]; exact q
        obtain ⟨_, _, _, _, _, _, _, hd⟩ := hc'.dict
        simp only [List.mem_cons, List.not_mem_nil, or_false] at hk
        rcases hk with rfl | rfl | rfl
        · exact ne_of_cls hc'.inst h1 (by simp)
        · exact ne_of_cls hd h1 (by simp)
        · intro e
          obtain ⟨hlti, hgi⟩ := List.getElem?_eq_some_iff.mp ha
          obtain ⟨hltj, hgj⟩ := List.getElem?_eq_some_iff.mp h3
          have hap := List.pairwise_iff_getElem.mp S.cl.apart
          rcases Nat.lt_or_gt_of_ne hij with hh | hh
          · exact hap i j (by simpa using hlti) (by simpa using hltj) hh (by rw [List.getElem_map, List.getElem_map, hgi, hgj]; exact e.symm)
          · exact hap j i (by simpa using hltj) (by simpa using hlti) hh (by rw [List.getElem_map, List.getElem_map, hgi, hgj]; exact e)
    as := S.as.congr (upd_ne nA) fun c hc => upd_ne (nW c hc)
    held := ⟨vs, n, (upd_ne d1.symm).trans q7, q8⟩
    want := ⟨oc, (upd_ne (ne_of_obj q1 h1 (by rw [q2]; simp))).trans q1, q2⟩
    found := ⟨ov, oc', (upd_ne (ne_of_obj q1' h1 (by rw [q2']; simp))).trans q1', q2'⟩
    wdo := ⟨ow, (upd_ne (ne_of_cls q3 h1 (by rw [dictOf_cls q4]; simp))).trans q3, q4⟩ }
end
end Mine

namespace Mine

def foot (wc fc nl cD hl wd : Addr) (cs : List CA) (p : AsAddr) : List Addr := [nl, cD, hl, wd, wc, fc, p.a] ++ p.W ++ cs.flatMap CA.all
/-- what a turn may turn -/
def Turned (hl wd : Addr) (cs : List CA) (p : AsAddr) (a : Addr) : Prop := a = hl ∨ a = wd ∨ a ∈ p.W ∨ ∃ c ∈ cs, c.l = a
def KeepX (hl wd : Addr) (cs : List CA) (p : AsAddr) (ld ld' : Ld) : Prop := ∀ a o, ¬ Turned hl wd cs p a → ld a = some o → ld' a = some o

section
variable {w : World} {A : Around} {E : Value → Shared → Prop} {s : Shared} {mg mb : Str → Option Value} {b : Heap} {L : Addr} {m : Loc} {ld : Ld} {env : Env}
  {wc fc nl cD hl wd : Addr} {ns : List Int} {cs : List CA} {litss : List (List Int)} {p : AsAddr} {f : Int → Option Bool} {seen asg hs : List Int} {kvs : List (Int × Value)}

theorem KeepX.refl : KeepX hl wd cs p ld ld := fun _ _ _ q => q
theorem KeepX.trans {l1 l2 l3 : Ld} (x : KeepX hl wd cs p l1 l2) (y : KeepX hl wd cs p l2 l3) : KeepX hl wd cs p l1 l3 := fun a o h q => y a o h (x a o h q)
theorem KeepX.more {l1 l2 : Ld} (x : ∀ a o, l1 a = some o → l2 a = some o) : KeepX hl wd cs p l1 l2 := fun a o _ q => x a o q
theorem KeepX.upd {a : Addr} {o : Obj} (h : Turned hl wd cs p a) : KeepX hl wd cs p ld (Mine.upd ld a o) := fun c oc q e => (upd_ne fun e' => q (by rw [e']; exact h)).trans e
theorem KeepX.mix {ld' : Ld} : KeepX hl wd cs p ld (Mine.mix p.W ld' ld) := fun c oc q e => by rw [mix_out fun e' => q (.inr (.inr (.inl e')))]; exact e

theorem LS.has (S : LS w b L m ld wc fc nl cD hl wd ns cs litss p f seen asg hs kvs) {a : Addr} (ha : a ∈ foot wc fc nl cD hl wd cs p) : ∃ o, ld a = some o := by
  simp only [foot, List.mem_append, List.mem_cons, List.not_mem_nil, or_false, List.mem_flatMap] at ha
  rcases ha with ((rfl | rfl | rfl | rfl | rfl | rfl | rfl) | ha) | ⟨c, hc, ha⟩
  · obtain ⟨_, _, q, _⟩ := S.nums; exact ⟨_, q⟩
  · exact ⟨_, S.cls⟩
  · obtain ⟨_, _, q, _⟩ := S.held; exact ⟨_, q⟩
  · obtain ⟨_, q, _⟩ := S.wdo; exact ⟨_, q⟩
  · obtain ⟨_, q, _⟩ := S.want; exact ⟨_, q⟩
  · obtain ⟨_, _, q, _⟩ := S.found; exact ⟨_, q⟩
  · exact ⟨_, S.as.inst⟩
  · obtain ⟨o, q, _⟩ := as_clsW S.as ha; exact ⟨o, q⟩
  · exact S.cl.has hc ha

theorem turned_foot {a : Addr} (h : Turned hl wd cs p a) : a ∈ foot wc fc nl cD hl wd cs p := by
  simp only [foot, List.mem_append, List.mem_cons, List.not_mem_nil, or_false, List.mem_flatMap]
  rcases h with rfl | rfl | h | ⟨c, hc, rfl⟩
  · simp
  · simp
  · exact .inl (.inr h)
  · exact .inr ⟨c, hc, by simp [CA.all]⟩

theorem LS.on {m' : Loc} {ld' : Ld} (S : LS w b L m ld wc fc nl cD hl wd ns cs litss p f seen asg hs kvs) (hm : ∀ x, x ∈ [("numbers" : Str), "clauses", "assignments", "held"] → m' x = m x) (hk : ∀ a ∈ foot wc fc nl cD hl wd cs p, ∀ o, ld a = some o → ld' a = some o) :
    LS w b L m' ld' wc fc nl cD hl wd ns cs litss p f seen asg hs kvs := by
  have hx : ∀ a ∈ foot wc fc nl cD hl wd cs p, ld' a = ld a := fun a ha => by
    obtain ⟨o, q⟩ := S.has ha
    rw [hk a ha o q, q]
  have f1 : ∀ a ∈ [nl, cD, hl, wd, wc, fc, p.a], a ∈ foot wc fc nl cD hl wd cs p := fun a ha => List.mem_append_left _ (List.mem_append_left _ ha)
  exact { S with
    mn := (hm _ (by simp)).trans S.mn
    mc := (hm _ (by simp)).trans S.mc
    ma := (hm _ (by simp)).trans S.ma
    mh := (hm _ (by simp)).trans S.mh
    nums := let ⟨vs, n, a, r⟩ := S.nums; ⟨vs, n, (hx _ (f1 _ (by simp))).trans a, r⟩
    cls := (hx _ (f1 _ (by simp))).trans S.cls
    cl := S.cl.mono fun c hc k hk' o q => hk k (List.mem_append_right _ (List.mem_flatMap.mpr ⟨c, hc, hk'⟩)) o q
    as := S.as.congr (hx _ (f1 _ (by simp))) fun c hc => hx c (List.mem_append_left _ (List.mem_append_right _ hc))
    held := let ⟨vs, n, a, r⟩ := S.held; ⟨vs, n, (hx _ (f1 _ (by simp))).trans a, r⟩
    want := let ⟨o, a, r⟩ := S.want; ⟨o, (hx _ (f1 _ (by simp))).trans a, r⟩
    found := let ⟨ov, o, a, r⟩ := S.found; ⟨ov, o, (hx _ (f1 _ (by simp))).trans a, r⟩
    wdo := let ⟨o, a, r⟩ := S.wdo; ⟨o, (hx _ (f1 _ (by simp))).trans a, r⟩ }

/-- the plain side -/
structure LP (litss : List (List Int)) (f : Int → Option Bool) (seen hs : List Int) (kvs : List (Int × Value)) : Prop where
  hok : HsOk hs
  hf : HeldIs f hs
  wi : WantIs kvs f seen
  lit : ∀ lits ∈ litss, lits.Nodup ∧ lits.length ≤ 5 ∧ Watch hs lits

noncomputable abbrev turnB (w : World) : List Stmt := match (lawB w).getD 7 (.Pass default) with | .For _ _ body _ _ => body | _ => []

set_option maxHeartbeats 4000000 in
/-- the last loop of a turn -/
theorem turn_seen {cells : List (Str × Addr)} {Q : Flow → Shared → Prop}
    (C : Cx (KK w) mg mb b) (r : Room A 5) (e : EnvIs env (lawS w) L) (z : Z b L m ld s.heap)
    (S : LS w b L m ld wc fc nl cD hl wd ns cs litss p f seen asg hs kvs) (P : LP litss f seen hs kvs)
    (h : ∀ h' tk m' ld', Z b L m' ld' h' → (∀ x : Str, x ≠ ("clause" : Str) → m' x = m x) → (∀ a o, ld a = some o → ld' a = some o) → Q .next { s with heap := h', toks := tk }) :
    wpAny (model PP w) A (exec ((turnB w).getD 3 (.Pass default)) env) Q (fun _ _ => False) s := by
  show wpAny _ _ (exec (.For (.Name "clause" _) (.Name "clauses" _) _ [] _) env) _ _ _
  refine wpAny_For (ev_loc e z S.mc ?_) (by intro _; rfl)
  refine iter_list r e z S.cls (fun i m' l' => (∀ x : Str, x ≠ ("clause" : Str) → m' x = m x) ∧ ∀ a o, ld a = some o → l' a = some o) ?_ ?_ ?_ ?_
  · intro ld₁ q; exact ⟨fun _ _ => rfl, q⟩
  · rintro I hI i m₁ l₁ l₂ ⟨q1, q2⟩ q3
    exact ⟨q1, fun a o q => by rw [q3 a fun e => by rw [e, hI] at q; cases q]; exact q2 a o q⟩
  · rintro I oI i v m₁ lq h₁ tk₁ hI hqI hv ⟨q1, q2⟩ hqx z
    obtain ⟨a, ha, rfl⟩ : ∃ a, cs[i]? = some a ∧ v = .ref a.c := by
      rw [List.getElem?_toArray, List.getElem?_map] at hv
      obtain ⟨p, hp, q⟩ := Option.map_eq_some_iff.mp hv
      exact ⟨p, hp, q.symm⟩
    have hlt : i < litss.length := by rw [← S.cl.len]; exact (List.getElem?_eq_some_iff.mp ha).1
    have hcl := S.cl.cl i a litss[i] ha (List.getElem?_eq_getElem hlt)
    obtain ⟨hnd, h5, hw⟩ := P.lit _ (List.getElem_mem hlt)
    obtain ⟨h1, h2, h3, t1, t2, t3, n, hd⟩ := hcl.dict
    generalize hlits : litss[i] = lits at hcl hnd h5 hw
    have hm1 : ∀ x : Str, x ≠ ("clause" : Str) → (if x = ("clause" : Str) then some (Value.ref a.c) else m₁ x) = m x := fun x hx => by rw [if_neg hx]; exact q1 x hx
    refine wpAny_execs_cons (wpAny_If (isTrue_and (wpAny_isTrue_Compare1 (Call_ (ev_bi e C z rfl boot_len (PyProof.Rows.callWith_builtin1 (args_cons (ev_loc e z rfl (args_nil ?_)))))))))
    refine PySem.W.len_K z.F C.X (inst_at z (q2 _ _ hcl.inst) (q2 _ _ hd)) rfl rfl ?_
    refine cllen_spec C z.bs (r.in1.le (by omega)) (hcl.congr fun k _ o q => z.led _ _ (q2 _ _ q)) (by omega) fun h₂ tk₂ u led => ?_
    have z := z.call0 led
    refine ⟨⟨by omega, by omega⟩, wpAny_Constant_int (gt_int (wpAny_truthy_bool ?_))⟩
    by_cases hgt : lits.length > 1
    · rw [if_pos (decide_eq_true (by omega))]
      obtain ⟨x, y, rest, rfl⟩ : ∃ x y rest, lits = x :: y :: rest := by
        match lits, hgt with
        | x :: y :: rest, _ => exact ⟨x, y, rest, rfl⟩
      obtain ⟨hvs, hn, g1, g2⟩ := S.held
      refine isTrue_and (isTrue_not (isTrue_plain (Call_ (ev_glob e C z rfl (cw_K C rfl (args_cons (ev_loc e z rfl (args_cons (ev_loc e z ((hm1 _ (by decide)).trans S.mh) (args_nil ⟨z.stays, ?_⟩))))))))))
      refine seen_spec C z.bs (r.le (by omega)) (hcl.congr fun k _ o q => z.led _ _ (q2 _ _ q)) (by simp only [List.length_cons] at h5; omega) (z.led _ _ (q2 _ _ g1)) g2 hw.full fun h₃ tk₃ led₃ => ?_
      have z := z.call0 led₃
      refine wpAny_truthy_bool ?_
      rw [if_neg (by decide)]
      exact wpAny_execs_nil (wpAny_execs_nil ⟨_, _, _, lq, rfl, z, ⟨hm1, q2⟩, fun _ _ => rfl⟩)
    · rw [if_neg (by rw [decide_eq_false (by omega)]; decide)]
      exact wpAny_execs_nil (wpAny_execs_nil ⟨_, _, _, lq, rfl, z, ⟨hm1, q2⟩, fun _ _ => rfl⟩)
  · rintro m₁ lq h₁ tk₁ ⟨q1, q2⟩ z
    exact h _ _ _ _ z q1 q2
end
end Mine

namespace Mine
section
variable {prog : Program} {w : World} {A : Around} {E : Value → Shared → Prop} {s : Shared} {K : Frag} {mg mb : Str → Option Value} {b : Heap} {L : Addr} {m : Str → Option Value} {ld : Ld} {env : Env} {sc : Scope}
/-- x.lits[:k] -/
theorem ev_aupto {x : Str} {at' : Str} {px pa p1 p2 p3 : Pos} {l : Addr} {vs : List Value} {n k : Nat} {j : Nat} {Q : Value → Shared → Prop} (hsz : vs.length ≤ 1000)
    (hg : ∀ Q' : Value → Shared → Prop, (∀ tk, Q' (.ref l) { s with toks := tk }) → wpAny (model prog w) A (eval (.Attribute (.Name x px) at' pa) env) Q' E s)
    (z : Z b L m ld s.heap) (hl : ld l = some (listOf vs.toArray n))
    (h : ∀ a h' tk, ld a = none → Z b L m (upd ld a (listOf (vs.take k).toArray 0)) h' → Q (.ref a) { s with heap := h', toks := tk }) :
    wpAny (model prog w) A (eval (.Subscript (.Attribute (.Name x px) at' pa) (.Slice none (some (.Constant (.int k) j p1)) none p2) p3) env) Q E s := by
  refine Subscript_ (hg _ fun tk => ?_)
  refine wpAny_Slice (evalPart_none_step (evalPart_some_step (wpAny_Constant_int (evalPart_none_step ?_))))
  refine kba_turn (value' := .Name "_" ⟨0, 0, 0, 0⟩) (fun _ => rfl) ?_
  refine slice_listK (s := { s with toks := tk + 1 }) (z.isList hl) .none (.int k tk) ?_ (hsz := by rw [List.size_toArray]; exact Nat.le_trans hsz (by decide))
  have z1 := z.push { cls := .type "slice", data := .fields #[.none, .int k tk, .none] }
  have z2 := z1.push { cls := .type "list", data := .seq (slicePick vs.toArray none (some k) none) }
  rw [Heap.size_push] at z2
  refine h _ _ _ ?_ (z2.mono (fun a o q => ?_) fun a o q => ?_)
  · exact z.none1
  · by_cases q1 : a = s.heap.objs.size + 1
    · subst q1; rw [upd_self] at q ⊢; rw [← q, slicePick_upto']
    · rw [upd_ne q1] at q ⊢
      rw [upd_ne (ne_of_lt1 (z.lt q))]; exact q
  · rw [upd_ne (ne_of_lt2 (z.blt q))]; exact z.base _ _ q
end
end Mine

namespace Mine
section
variable {w : World} {A : Around} {E : Value → Shared → Prop} {s : Shared} {mg mb : Str → Option Value} {b : Heap} {L : Addr} {m : Loc} {ld : Ld} {env : Env}
  {wc fc nl cD hl wd : Addr} {ns : List Int} {cs : List CA} {litss : List (List Int)} {p : AsAddr} {f : Int → Option Bool} {seen asg hs : List Int} {kvs : List (Int × Value)}

noncomputable abbrev ifB (w : World) : List Stmt := match (turnB w).getD 2 (.Pass default) with | .If _ body _ _ => body | _ => []
noncomputable abbrev elB (w : World) : List Stmt := match (turnB w).getD 2 (.Pass default) with | .If _ _ body _ => body | _ => []

set_option maxHeartbeats 4000000 in
/-- the loop behind a move -/
theorem turn_moved {won : Int} {t : Tok} {Q : Flow → Shared → Prop}
    (C : Cx (KK w) mg mb b) (r : Room A 5) (e : EnvIs env (lawS w) L) (z : Z b L m ld s.heap) (hmw : m "won" = some (.int won t))
    (S : LS w b L m ld wc fc nl cD hl wd ns cs litss p f seen asg (hs ++ [won]) kvs) (hf : HeldIs f (hs ++ [won])) (h1 : won ∉ hs) (h2 : -won ∉ hs)
    (hlit : ∀ lits ∈ litss, lits.Nodup ∧ lits.length ≤ 5 ∧ Watch hs lits)
    (h : ∀ h' tk m' ld' litss', Z b L m' ld' h' → (∀ x : Str, x ≠ ("clause" : Str) → m' x = m x) → KeepX hl wd cs p ld ld' → LS w b L m' ld' wc fc nl cD hl wd ns cs litss' p f seen asg (hs ++ [won]) kvs →
      (∀ lits ∈ litss', lits.Nodup ∧ lits.length ≤ 5 ∧ Watch (hs ++ [won]) lits) → Q .next { s with heap := h', toks := tk }) :
    wpAny (model PP w) A (exec ((elB w).getD 4 (.Pass default)) env) Q (fun _ _ => False) s := by
  show wpAny _ _ (exec (.For (.Name "clause" _) (.Name "clauses" _) _ [] _) env) _ _ _
  refine wpAny_For (ev_loc e z S.mc ?_) (by intro _; rfl)
  refine iter_listI r e z S.cls (fun I i m' l' => (∀ x : Str, x ≠ ("clause" : Str) → m' x = m x) ∧ I ∉ foot wc fc nl cD hl wd cs p ∧ KeepX hl wd cs p ld l' ∧ ∃ litss', LS w b L m' l' wc fc nl cD hl wd ns cs litss' p f seen asg (hs ++ [won]) kvs ∧
    ∀ j lits, litss'[j]? = some lits → lits.Nodup ∧ lits.length ≤ 5 ∧ (j < i → Watch (hs ++ [won]) lits) ∧ (i ≤ j → Watch hs lits)) ?_ ?_ ?_ ?_
  · intro I ld₁ hI q
    refine ⟨fun _ _ => rfl, fun hm => ?_, .more q, litss, S.on (fun _ _ => rfl) fun a _ o qa => q a o qa, fun j lits hj => ?_⟩
    · obtain ⟨o, qo⟩ := S.has hm; rw [hI] at qo; cases qo
    · obtain ⟨a1, a2, a3⟩ := hlit lits (List.mem_of_getElem? hj)
      exact ⟨a1, a2, fun h => absurd h (Nat.not_lt_zero _), fun _ => a3⟩
  · rintro I hI i m₁ l₁ l₂ ⟨q1, q2, q3, litss', q4, q5⟩ q6
    refine ⟨q1, q2, fun a o hT qa => ?_, litss', q4.on (fun _ _ => rfl) fun a ha o qa => ?_, q5⟩
    · rw [q6 a fun e => by rw [e, hI] at qa; cases qa]; exact q3 a o hT qa
    · rw [q6 a fun e => q2 (e ▸ ha)]; exact qa
  · rintro I oI i v m₁ lq h₁ tk₁ hI hqI hv ⟨q1, q2, q3, litss', q4, q5⟩ hqx z
    obtain ⟨a, ha, rfl⟩ : ∃ a, cs[i]? = some a ∧ v = .ref a.c := by
      rw [List.getElem?_toArray, List.getElem?_map] at hv
      obtain ⟨p, hp, q⟩ := Option.map_eq_some_iff.mp hv
      exact ⟨p, hp, q.symm⟩
    have hlt : i < litss'.length := by rw [← q4.cl.len]; exact (List.getElem?_eq_some_iff.mp ha).1
    obtain ⟨lits, hlits⟩ : ∃ lits, litss'[i]? = some lits := ⟨_, List.getElem?_eq_getElem hlt⟩
    have hcl := q4.cl.cl i a lits ha hlits
    obtain ⟨hnd, h5, _, hw⟩ := q5 i lits hlits
    replace hw := hw (Nat.le_refl _)
    obtain ⟨g1, g2, g3, t1, t2, t3, n, hd⟩ := hcl.dict
    obtain ⟨cvs, cn, hli, hii⟩ := hcl.list
    have hm1 : ∀ x : Str, x ≠ ("clause" : Str) → (if x = ("clause" : Str) then some (Value.ref a.c) else m₁ x) = m x := fun x hx => by rw [if_neg hx]; exact q1 x hx
    have S1 : LS w b L (fun y => if y = ("clause" : Str) then some (Value.ref a.c) else m₁ y) lq wc fc nl cD hl wd ns cs litss' p f seen asg (hs ++ [won]) kvs := q4.on (fun x hx => by
      simp only [List.mem_cons, List.not_mem_nil, or_false] at hx
      rcases hx with rfl | rfl | rfl | rfl <;> rfl) fun _ _ _ q => q
    have stay : Watch (hs ++ [won]) lits → ∀ h₂ tk₂ lz, Z b L (fun y => if y = ("clause" : Str) then some (Value.ref a.c) else m₁ y) lz h₂ → (∀ a o, lq a = some o → lz a = some o) →
        TurnEnd b L [I, cD] (fun m' l' => (∀ x : Str, x ≠ ("clause" : Str) → m' x = m x) ∧ I ∉ foot wc fc nl cD hl wd cs p ∧ KeepX hl wd cs p ld l' ∧ ∃ litss', LS w b L m' l' wc fc nl cD hl wd ns cs litss' p f seen asg (hs ++ [won]) kvs ∧
          ∀ j lits, litss'[j]? = some lits → lits.Nodup ∧ lits.length ≤ 5 ∧ (j < i + 1 → Watch (hs ++ [won]) lits) ∧ (i + 1 ≤ j → Watch hs lits)) lq s { s with heap := h₂, toks := tk₂ } := fun hno h₂ tk₂ lz z hk => by
      refine ⟨_, _, _, lz, rfl, z, ⟨hm1, q2, q3.trans (.more hk), litss', S1.on (fun _ _ => rfl) fun a _ o q => hk a o q, fun j ls hj => ?_⟩, fun a ha => ?_⟩
      · obtain ⟨a1, a2, a3, a4⟩ := q5 j ls hj
        refine ⟨a1, a2, fun hj1 => ?_, fun hj1 => a4 (by omega)⟩
        rcases Nat.lt_or_ge j i with hh | hh
        · exact a3 hh
        · obtain rfl : j = i := by omega
          rw [hlits] at hj; cases hj
          exact hno
      · simp only [List.mem_cons, List.not_mem_nil, or_false] at ha
        rcases ha with rfl | rfl
        · rw [hk _ _ hqI, hqI]
        · rw [hk _ _ hqx, hqx]
    refine wpAny_execs_cons (wpAny_If (isTrue_and (wpAny_isTrue_Compare1 (Call_ (ev_bi e C z rfl boot_len (PyProof.Rows.callWith_builtin1 (args_cons (ev_loc e z rfl (args_nil ?_)))))))))
    refine PySem.W.len_K z.F C.X (inst_at z hcl.inst hd) rfl rfl ?_
    refine cllen_spec C z.bs (r.in1.le (by omega)) (hcl.congr fun k _ o q => z.led _ _ q) (by omega) fun h₂ tk₂ u led => ?_
    have z := z.call0 led
    refine ⟨⟨by omega, by omega⟩, wpAny_Constant_int (gt_int (wpAny_truthy_bool ?_))⟩
    by_cases hgt : lits.length > 1
    · rw [if_pos (decide_eq_true (by omega))]
      have hvl := hii.length
      refine isTrue_and (wpAny_isTrue_Compare1 (wpAny_UnaryOp (ev_loc e z ((hm1 _ (by decide)).trans hmw) (neg_int ?_))))
      refine ev_aupto (by omega) (fun Q' hQ' => Attribute_Name_ (ev_loc e z rfl (ga_own C z hcl.inst hd rfl rfl rfl rfl rfl (hQ' _)))) z hli fun t₃ h₃ tk₃ ht₃ z => ?_
      refine in_ints z upd_self (hii.take 2) (wpAny_truthy_bool ?_)
      by_cases hin : -won ∈ lits.take 2
      · rw [if_pos (decide_eq_true hin)]
        refine isTrue_and_nil ?_
        rw [if_pos rfl]
        obtain ⟨x, y, rest, rfl⟩ : ∃ x y rest, lits = x :: y :: rest := by
          match lits, hgt with
          | x :: y :: rest, _ => exact ⟨x, y, rest, rfl⟩
        have S2 := S1.on (m' := _) (fun _ _ => rfl) fun a _ o q => upd_old (o' := listOf (cvs.take 2).toArray 0) ht₃ q
        obtain ⟨hvs, hn, g4, g5⟩ := S2.held
        refine wpAny_execs_cons (wpAny_If (isTrue_not (isTrue_plain (Call_ (ev_glob e C z rfl (cw_K C rfl ?_))))))
        refine args_cons (ev_loc e z rfl (args_cons (ev_loc e z S2.ma (args_cons (ev_loc e z ((hm1 _ (by decide)).trans hmw) (args_cons (ev_loc e z S2.mh (args_nil ⟨z.stays, ?_⟩))))))))
        refine moved_spec C z.bs (r.le (by omega)) (hcl.congr fun k _ o q => z.led _ _ (upd_old ht₃ q)) (q4.cl.new a (List.mem_of_getElem? ha)) (by simp only [List.length_cons] at h5; omega) hin S2.ok (S2.as.here z) (z.led _ _ g4) g5 (S2.d1.2.2 a (List.mem_of_getElem? ha)).1.symm hf fun h₄ tk₄ vs' ln' led hi' => ?_
        have z := z.call (upd_old ht₃ hli) (New.none (q4.cl.new a (List.mem_of_getElem? ha))) led
        refine wpAny_truthy_bool ?_
        rw [if_neg (by decide)]
        have S3 := S2.setLits (n' := ln') ha hlits hi'
        have hTa : Turned hl wd cs p a.l := .inr (.inr (.inr ⟨a, List.mem_of_getElem? ha, rfl⟩))
        refine wpAny_execs_nil (wpAny_execs_nil (wpAny_execs_nil ⟨_, _, _, _, rfl, z, ⟨hm1, q2, (q3.trans (.more fun a o q => upd_old ht₃ q)).trans (.upd hTa), _, S3, fun j ls hj => ?_⟩, fun k hk => ?_⟩))
        · by_cases hij : i = j
          · subst hij
            rw [List.getElem?_set_self hlt] at hj; cases hj
            have hpm := rwAfter_perm (f := f) hin
            exact ⟨hpm.nodup_iff.mpr hnd, by rw [hpm.length_eq]; exact h5, fun _ => hw.moved hin hnd hf h1 h2, fun hh => absurd hh (by omega)⟩
          · rw [List.getElem?_set_ne hij] at hj
            obtain ⟨a1, a2, a3, a4⟩ := q5 j ls hj
            exact ⟨a1, a2, fun hh => a3 (by omega), fun hh => a4 (by omega)⟩
        · simp only [List.mem_cons, List.not_mem_nil, or_false] at hk
          rcases hk with rfl | rfl
          · rw [upd_ne (a := a.l) (fun e => q2 (turned_foot (by rw [e]; exact hTa))), upd_old ht₃ hqI, hqI]
          · rw [S3.cls, hqx]
      · rw [if_neg (by rw [decide_eq_false hin]; decide)]
        exact wpAny_execs_nil (wpAny_execs_nil (stay (hw.push hin) _ _ _ z fun a o q => upd_old ht₃ q))
    · rw [if_neg (by rw [decide_eq_false (by omega)]; decide)]
      refine wpAny_execs_nil (wpAny_execs_nil (stay (fun j => ?_) _ _ _ z fun a o q => q))
      match lits, hgt with
      | [], _ => trivial
      | [_], _ => trivial
      | _ :: _ :: _, hgt => exact absurd (by simp) hgt
  · rintro m₁ lq h₁ tk₁ I ⟨q1, q2, q3, litss', q4, q5⟩ z
    refine h _ _ _ _ litss' z q1 q3 q4 fun lits hl' => ?_
    obtain ⟨j, hj⟩ := List.getElem?_of_mem hl'
    obtain ⟨a1, a2, a3, _⟩ := q5 j lits hj
    refine ⟨a1, a2, a3 ?_⟩
    have := (List.getElem?_eq_some_iff.mp hj).1
    rw [List.size_toArray, List.length_map, q4.cl.len]; exact this
end
end Mine

namespace Mine

theorem ints_snoc {vs : List Value} {ns : List Int} {k : Int} (h : IntsAre vs (ns ++ [k])) : ∃ us t, vs = us ++ [.int k t] ∧ IntsAre us ns := by
  induction ns generalizing vs with
  | nil => obtain ⟨t, vs', rfl, h'⟩ := IntsAre.cons_inv h; rw [IntsAre.nil_inv h']; exact ⟨[], t, rfl, .nil⟩
  | cons n ns ih =>
    obtain ⟨t, vs', rfl, h'⟩ := IntsAre.cons_inv h
    obtain ⟨us, t', rfl, hu⟩ := ih h'
    exact ⟨.int n t :: us, t', rfl, .cons _ _ hu⟩

section
variable {w : World} {A : Around} {E : Value → Shared → Prop} {s : Shared} {mg mb : Str → Option Value} {b : Heap} {L : Addr} {m : Loc} {ld : Ld} {env : Env}
  {wc fc nl cD hl wd : Addr} {ns : List Int} {cs : List CA} {litss : List (List Int)} {p : AsAddr} {f : Int → Option Bool} {seen asg hs : List Int} {kvs : List (Int × Value)}

theorem new_W {p : AsAddr} (hp : p.Ok b) {c : Addr} (hc : c ∈ p.W) : New b c := by
  simp only [AsAddr.W, List.mem_cons, List.not_mem_nil, or_false] at hc
  rcases hc with rfl | rfl | rfl | rfl | rfl | rfl
  · exact hp.nad
  · exact hp.n1
  · exact hp.n2
  · exact hp.n3
  · exact hp.n4
  · exact hp.n5

theorem LS.len (S : LS w b L m ld wc fc nl cD hl wd ns cs litss p f seen asg hs kvs) (P : WantIs kvs f seen) : kvs.length ≤ 19 := by
  obtain ⟨o, _, hk⟩ := S.wdo
  obtain ⟨o3, _, _, hr⟩ := S.as.seen
  refine dict_le hk fun k v q => ?_
  rw [P k] at q
  split at q
  · rename_i hm; have := hr k hm; omega
  · cases q

set_option maxHeartbeats 4000000 in
theorem turn_pop {last : Int} {Q : Flow → Shared → Prop}
    (C : Cx (KK w) mg mb b) (r : Room A 5) (e : EnvIs env (lawS w) L) (hce : env.cells.lookup ("want" : Str) = some wc) (z : Z b L m ld s.heap)
    (S : LS w b L m ld wc fc nl cD hl wd ns cs litss p f seen asg (hs ++ [last]) kvs) (P : LP litss f seen (hs ++ [last]) kvs)
    (h : ∀ h' tk m' ld' f' seen' asg' kvs', Z b L m' ld' h' → KeepX hl wd cs p ld ld' → LS w b L m' ld' wc fc nl cD hl wd ns cs litss p f' seen' asg' hs kvs' → LP litss f' seen' hs kvs' → Q .next { s with heap := h', toks := tk }) :
    wpAny (model PP w) A (execs (ifB w) env) Q (fun _ _ => False) s := by
  show wpAny _ _ (execs [.Assign [.Name "newest" _] _ _, .Assign [.Subscript _ _ _] _ _, .Assign [.Subscript _ _ _] _ _] env) _ _ _
  obtain ⟨vs, n, h1, h2⟩ := S.held
  obtain ⟨us, t, rfl, h3⟩ := ints_snoc h2
  have hlen : us.length ≤ 19 := by have := P.hok.len; rw [List.length_append] at this; rw [h3.length]; omega
  have hr := P.hok.rng last (by simp)
  -- newest
  refine wpAny_execs_cons (wpAny_Assign_Name (Call_ (ev_bi e C z rfl PyProof.Rows.boot_abs (PyProof.Rows.callWith_builtin1 (args_cons (MethodCall_ (ev_loc e z S.mh (lm_pop z h1 ?_))))))))
  refine callWith_method0 (l_pop z h1 S.hln (by omega) fun h₁ z => args_nil (call_abs_int fun u tk₂ => st_loc e z fun h₂ z => ?_))
  dsimp only
  have S1 := (S.setHeld (n' := n + 1) h3).on (m' := fun y => if y = ("newest" : Str) then some (Value.int (if last < 0 then -last else last) u) else m y) (fun x hx => by
      simp only [List.mem_cons, List.not_mem_nil, or_false] at hx
      rcases hx with rfl | rfl | rfl | rfl <;> rfl) fun _ _ _ q => q
  have K1 : KeepX hl wd cs p ld (upd ld hl (listOf us.toArray (n + 1))) := .upd (.inl rfl)
  generalize upd ld hl (listOf us.toArray (n + 1)) = l1 at z S1 K1
  have hnew : (if last < 0 then -last else last) = (last.natAbs : Int) := by split <;> omega
  rw [hnew] at z S1
  -- assignments[newest] = None
  obtain ⟨g1, g2, g3, g4, g5, g6, w1, w2, w3, w4, w5, w6, nn, hdict⟩ := S1.as.dict
  have hfl := (P.hf last).1.mpr (by simp)
  have hfl' := (P.hf (-last)).2.mpr (by simp)
  obtain ⟨c, c', hc, hc'⟩ : ∃ c c', f (last.natAbs : Int) = some c ∧ f (-(last.natAbs : Int)) = some c' := by
    rcases (by omega : (last.natAbs : Int) = last ∨ (last.natAbs : Int) = -last) with q | q <;> rw [q]
    · exact ⟨_, _, hfl, hfl'⟩
    · rw [Int.neg_neg]; exact ⟨_, _, hfl', hfl⟩
  refine wpAny_execs_cons (wpAny_Assign_Subscript (wpAny_Constant_none (ev_loc e z S1.ma (ev_loc e z rfl (set_inst C z S1.as.inst hdict rfl rfl rfl ?_)))))
  refine setnone_spec C z.bs (r.le (by omega)) S1.ok (S1.as.here z) (by omega) hc hc' fun h₃ tk₃ ld' seen' led hR hperm hAS => ?_
  have z := z.calls (W := p.W) (fun c hc => new_W S1.ok hc) (S1.as.notL z) led hR
  have S2 := S1.setAs hAS
  have K2 : KeepX hl wd cs p l1 (mix p.W ld' l1) := .mix
  generalize mix p.W ld' l1 = l2 at z S2 K2
  -- want[newest] = None
  obtain ⟨ow, hw1, hw2⟩ := S2.wdo
  refine wpAny_execs_cons (wpAny_Assign_Subscript (wpAny_Constant_none (ev_cell e hce z S2.want (ev_loc e z rfl (d_set z hw1 S2.wdn hw2 (fun h₅ o1' z hk1' => ?_) (Nat.le_trans (S.len P.wi) (by decide)))))))
  have S3 := S2.setWant hk1'
  obtain ⟨_, _, hSK, hrng⟩ := S.as.seen
  have hnd : seen.Nodup := by obtain ⟨_, _, _, _, _, _, _, q, _⟩ := hSK; exact q
  refine wpAny_execs_nil (h _ _ _ _ _ _ _ _ z ((K1.trans K2).trans (.upd (.inr (.inl rfl)))) S3 ⟨?_, P.hf.pop P.hok, ?_, fun lits hl' => ?_⟩)
  · have := P.hok.pop; rwa [List.dropLast_concat] at this
  · have := P.wi.set (f' := fun i => if i = -(last.natAbs : Int) then none else if i = (last.natAbs : Int) then none else f i) (seen' := seen') (n := (last.natAbs : Int)) hrng (by omega) (fun k q1 q2 => by rw [if_neg q2, if_neg q1]) (fun k => by
      rw [hperm.mem_iff, List.mem_cons]
      by_cases q : k = (last.natAbs : Int)
      · simp [q]
      · rw [List.Nodup.mem_erase_iff hnd]; simp [q])
    have hov : optV ((fun i => if i = -(last.natAbs : Int) then none else if i = (last.natAbs : Int) then none else f i) (last.natAbs : Int)) = .none := by
      show optV (if (last.natAbs : Int) = -(last.natAbs : Int) then none else if (last.natAbs : Int) = (last.natAbs : Int) then none else f _) = .none
      rw [if_neg (by omega), if_pos rfl]; rfl
    rw [hov] at this; exact this
  · obtain ⟨a1, a2, a3⟩ := P.lit lits hl'
    refine ⟨a1, a2, ?_⟩
    have := a3.pop; rwa [List.dropLast_concat] at this
end
end Mine

namespace Mine
section
variable {w : World} {A : Around} {E : Value → Shared → Prop} {s : Shared} {mg mb : Str → Option Value} {b : Heap} {L : Addr} {m : Loc} {ld : Ld} {env : Env}
  {wc fc nl cD hl wd : Addr} {ns : List Int} {cs : List CA} {litss : List (List Int)} {p : AsAddr} {f : Int → Option Bool} {seen asg hs : List Int} {kvs : List (Int × Value)}

set_option maxHeartbeats 4000000 in
theorem turn_push {code name : Int} {uc un : Tok} {Q : Flow → Shared → Prop}
    (C : Cx (KK w) mg mb b) (r : Room A 5) (e : EnvIs env (lawS w) L) (hce : env.cells.lookup ("want" : Str) = some wc) (z : Z b L m ld s.heap)
    (S : LS w b L m ld wc fc nl cD hl wd ns cs litss p f seen asg hs kvs) (P : LP litss f seen hs kvs)
    (hmc : m "code" = some (.int code uc)) (hmn : m "name" = some (.int name un)) (hn : 1 ≤ name ∧ name ≤ 9) (n1 : name ∉ hs) (n2 : -name ∉ hs)
    (h : ∀ h' tk m' ld' litss' f' seen' asg' hs' kvs', Z b L m' ld' h' → KeepX hl wd cs p ld ld' → LS w b L m' ld' wc fc nl cD hl wd ns cs litss' p f' seen' asg' hs' kvs' → LP litss' f' seen' hs' kvs' → Q .next { s with heap := h', toks := tk }) :
    wpAny (model PP w) A (execs (elB w) env) Q (fun _ _ => False) s := by
  show wpAny _ _ (execs [.Assign [.Name "won" _] _ _, .Expr _ _, .Assign [.Subscript _ _ _] _ _, .Assign [.Subscript _ _ _] _ _, (elB w).getD 4 (.Pass default)] env) _ _ _
  -- won
  refine wpAny_execs_cons (wpAny_Assign_Name (wpAny_mono (Q := fun v s' => ∃ (won : Int) (c : Bool) (u : Tok) (tk : Nat), v = .int won u ∧ won = (if c = true then name else -name) ∧ s' = { s with toks := tk }) ?_ ?_ fun _ _ x => x))
  · refine wpAny_IfExp (wpAny_isTrue_Compare1 (wpAny_BinOp (wpAny_BinOp (ev_loc e z hmc (wpAny_Constant_int (floordiv_int (by decide) (wpAny_Constant_int (mod_int' (by decide) (wpAny_Constant_int (eq_int (wpAny_truthy_bool ?_)))))))))))
    split
    · exact ev_loc e z hmn ⟨_, true, _, _, rfl, by rw [if_pos rfl], rfl⟩
    · exact wpAny_UnaryOp (ev_loc e z hmn (neg_int ⟨_, false, _, _, rfl, by rw [if_neg (by decide)], rfl⟩))
  rintro v s' ⟨won, c, u, tk, rfl, hwon, rfl⟩
  refine st_loc e z fun h₁ z => ?_
  dsimp only
  have hgt : decide (0 < won) = c := by cases c <;> simp only [Bool.false_eq_true, if_false, if_true] at hwon <;> simp <;> omega
  have S1 := S.on (m' := fun y => if y = ("won" : Str) then some (Value.int won u) else m y) (fun x hx => by
      simp only [List.mem_cons, List.not_mem_nil, or_false] at hx
      rcases hx with rfl | rfl | rfl | rfl <;> rfl) fun _ _ _ q => q
  have hmn1 : (if ("name" : Str) = "won" then some (Value.int won u) else m "name") = some (.int name un) := hmn
  -- held.append(won)
  obtain ⟨vs, n, g1, g2⟩ := S1.held
  have hlen : vs.length ≤ 19 := by rw [g2.length]; exact P.hok.len
  refine wpAny_execs_cons (ex_flat e (MethodCall_ (ev_loc e z S1.mh (lm_append z g1 ?_))))
  refine callWith_method1 (args_cons (ev_loc e z rfl (args_nil (l_append z g1 S.hln (by omega) fun h₂ z => ⟨fun _ q => (nomatch q), ?_⟩))))
  dsimp only
  have S2 := S1.setHeld (n' := n + 1) (g2.append (.cons won u .nil))
  have K2 : KeepX hl wd cs p ld (upd ld hl (listOf (vs ++ [Value.int won u]).toArray (n + 1))) := .upd (.inl rfl)
  generalize upd ld hl (listOf (vs ++ [Value.int won u]).toArray (n + 1)) = l1 at z S2 K2
  -- assignments[name] = won > 0
  obtain ⟨e1, e2, e3, e4, e5, e6, w1, w2, w3, w4, w5, w6, nn, hdict⟩ := S2.as.dict
  refine wpAny_execs_cons (wpAny_Assign_Subscript (wpAny_Compare1 (ev_loc e z rfl (wpAny_Constant_int (gt_int ?_)))))
  rw [hgt]
  refine ev_loc e z S2.ma (ev_loc e z hmn1 (set_inst C z S2.as.inst hdict rfl rfl rfl ?_))
  refine setitem_spec C z.bs (r.le (by omega)) S2.ok (S2.as.here z) (ak := name) (by rw [if_neg (by omega)]) hn fun h₃ tk₃ ld' seen' asg' led hR hperm _ hAS => ?_
  have z := z.calls (W := p.W) (fun c hc => new_W S2.ok hc) (S2.as.notL z) led hR
  have S3 := S2.setAs hAS
  have K3 : KeepX hl wd cs p l1 (mix p.W ld' l1) := .mix
  generalize mix p.W ld' l1 = l2 at z S3 K3
  -- want[name] = won > 0
  obtain ⟨ow, hw1, hw2⟩ := S3.wdo
  refine wpAny_execs_cons (wpAny_Assign_Subscript (wpAny_Compare1 (ev_loc e z rfl (wpAny_Constant_int (gt_int ?_)))))
  rw [hgt]
  refine ev_cell e hce z S3.want (ev_loc e z hmn1 (d_set z hw1 S3.wdn hw2 (fun h₅ o1' z hk1' => ?_) (Nat.le_trans (S.len P.wi) (by decide))))
  have S4 := S3.setWant hk1'
  have K4 : KeepX hl wd cs p l2 (upd l2 wd o1') := .upd (.inr (.inl rfl))
  have hf' := P.hf.push (c := c) hn.1 hwon n1 n2
  have w1' : won ∉ hs := by rw [hwon]; split <;> assumption
  have w2' : -won ∉ hs := by
    rw [hwon]; split
    · exact n2
    · rw [Int.neg_neg]; exact n1
  refine wpAny_execs_cons (turn_moved C r e z rfl S4 hf' w1' w2' P.lit fun h₆ tk₆ m' l3 litss' z _ K5 S5 hlit => ?_)
  obtain ⟨_, _, _, hrng⟩ := S.as.seen
  refine wpAny_execs_nil (h _ _ _ _ _ _ _ _ _ _ z (((K2.trans K3).trans K4).trans K5) S5 ⟨P.hok.push hn (by rw [hwon]; split <;> simp) n1 n2, hf', ?_, hlit⟩)
  have := P.wi.set (f' := fun i => if i = -name then some (!c) else if i = name then some c else f i) (seen' := seen') (n := name) hrng hn.1 (fun k q1 q2 => by rw [if_neg q2, if_neg q1]) (fun k => by
    rw [hperm.mem_iff]
    split
    · rename_i hm
      exact ⟨fun q => .inr q, fun q => q.elim (fun q => q ▸ hm) id⟩
    · rw [List.mem_cons])
  have hov : optV ((fun i => if i = -name then some (!c) else if i = name then some c else f i) name) = .bool c := by
    show optV (if name = -name then some (!c) else if name = name then some c else f _) = .bool c
    rw [if_neg (by omega), if_pos rfl]; rfl
  rw [hov] at this; exact this
end
end Mine

namespace Mine
section
variable {w : World} {A : Around} {E : Value → Shared → Prop} {s : Shared} {mg mb : Str → Option Value} {b : Heap} {L : Addr} {m : Loc} {ld : Ld} {env : Env}
  {wc fc nl cD hl wd : Addr} {ns : List Int} {cs : List CA} {litss : List (List Int)} {p : AsAddr} {f : Int → Option Bool} {seen asg hs : List Int} {kvs : List (Int × Value)}

set_option maxHeartbeats 4000000 in
theorem turn_whole {i : Nat} {t : Tok} {Q : Flow → Shared → Prop}
    (C : Cx (KK w) mg mb b) (r : Room A 5) (e : EnvIs env (lawS w) L) (hce : env.cells.lookup ("want" : Str) = some wc) (z : Z b L m ld s.heap)
    (S : LS w b L m ld wc fc nl cD hl wd ns cs litss p f seen asg hs kvs) (P : LP litss f seen hs kvs) (hmt : m "turn" = some (.int i t))
    (h : ∀ h' tk m' ld' litss' f' seen' asg' hs' kvs', Z b L m' ld' h' → KeepX hl wd cs p ld ld' → LS w b L m' ld' wc fc nl cD hl wd ns cs litss' p f' seen' asg' hs' kvs' → LP litss' f' seen' hs' kvs' → Q .next { s with heap := h', toks := tk }) :
    wpAny (model PP w) A (execs (turnB w) env) Q (fun _ _ => False) s := by
  show wpAny _ _ (execs [.Assign [.Name "code" _] _ _, .Assign [.Name "name" _] _ _, .If _ (ifB w) (elB w) _, (turnB w).getD 3 (.Pass default)] env) _ _ _
  obtain ⟨vs, n, hl1, hi⟩ := S.nums
  have hsz : vs.toArray.size = ns.length := by rw [List.size_toArray, hi.length]
  have hlen : 0 < ns.length := List.length_pos_iff.mpr S.ns0
  have hns := S.nsl
  -- code
  refine wpAny_execs_cons (wpAny_mono (Q := fun fl s' => fl = Flow.next ∧ ∃ h tk m' code uc, s' = { s with heap := h, toks := tk } ∧ Z b L m' ld h ∧ (∀ x : Str, x ≠ ("code" : Str) → m' x = m x) ∧ m' "code" = some (.int code uc)) ?_ ?_ fun _ _ x => x)
  · refine wpAny_Assign_Name (wpAny_BinOp (Subscript_ (ev_loc e z S.mn (wpAny_BinOp (ev_loc e z hmt ?_)))))
    refine Call_ (ev_bi e C z rfl boot_len (PyProof.Rows.callWith_builtin1 (args_cons (ev_loc e z S.mn (args_nil ?_)))))
    refine call_len_list (z.isList hl1) (by rw [hsz]; omega) ?_
    refine mod_int' (by rw [hsz]; omega) ?_
    have hf0 : (0 : Int) ≤ (i : Int).fmod (vs.toArray.size : Int) := Int.fmod_nonneg_of_pos _ (by rw [hsz]; omega)
    have hf1 : (i : Int).fmod (vs.toArray.size : Int) < ns.length := by have := Int.fmod_lt_of_pos (i : Int) (b := (vs.toArray.size : Int)) (by rw [hsz]; omega); rw [hsz] at this ⊢; exact this
    obtain ⟨v, hv⟩ : ∃ v, ns[((i : Int).fmod (vs.toArray.size : Int)).toNat]? = some v := ⟨_, List.getElem?_eq_getElem (by omega)⟩
    refine it_int z hl1 hi hv hf0 (by omega) fun t1 => ?_
    refine wpAny_BinOp (wpAny_Constant_int (ev_loc e z hmt (mul_int (add_int (st_loc e z fun h₁ z => ?_)))))
    exact ⟨rfl, _, _, _, _, _, rfl, z, fun x hx => if_neg hx, if_pos rfl⟩
  rintro fl s' ⟨rfl, h₁, tk₁, m₁, code, uc, rfl, z, hm1, hmc⟩
  dsimp only
  -- name
  refine wpAny_execs_cons (wpAny_mono (Q := fun fl s' => fl = Flow.next ∧ ∃ h tk m' name un, s' = { s with heap := h, toks := tk } ∧ Z b L m' ld h ∧ (∀ x : Str, x ≠ ("name" : Str) → m' x = m₁ x) ∧ m' "name" = some (.int name un) ∧ 1 ≤ name ∧ name ≤ 9) ?_ ?_ fun _ _ x => x)
  · refine wpAny_Assign_Name (wpAny_BinOp (wpAny_BinOp (ev_loc e z hmc (wpAny_Constant_int (mod_int' (by decide) (wpAny_Constant_int (add_int (st_loc e z fun h₂ z => ?_))))))))
    have a1 := Int.fmod_nonneg_of_pos code (b := 9) (by decide)
    have a2 := Int.fmod_lt_of_pos code (b := 9) (by decide)
    exact ⟨rfl, _, _, _, _, _, rfl, z, fun x hx => if_neg hx, if_pos rfl, by omega, by omega⟩
  rintro fl s' ⟨rfl, h₂, tk₂, m₂, name, un, rfl, z, hm2, hmn, n1, n2⟩
  dsimp only
  have hmx : ∀ x : Str, x ≠ ("code" : Str) → x ≠ ("name" : Str) → m₂ x = m x := fun x h1 h2 => (hm2 x h2).trans (hm1 x h1)
  have S1 := S.on (m' := m₂) (ld' := ld) (fun x hx => by
      simp only [List.mem_cons, List.not_mem_nil, or_false] at hx
      rcases hx with rfl | rfl | rfl | rfl <;> exact hmx _ (by decide) (by decide)) (fun _ _ _ q => q)
  have hmc2 : m₂ "code" = some (.int code uc) := (hm2 _ (by decide)).trans hmc
  obtain ⟨hvs, hnn, g1, g2⟩ := S1.held
  -- if
  refine wpAny_execs_cons (wpAny_mono (Q := fun fl s' => fl = Flow.next ∧ ∃ h tk m' ld' litss' f' seen' asg' hs' kvs', s' = { s with heap := h, toks := tk } ∧ Z b L m' ld' h ∧ KeepX hl wd cs p ld ld' ∧ LS w b L m' ld' wc fc nl cD hl wd ns cs litss' p f' seen' asg' hs' kvs' ∧ LP litss' f' seen' hs' kvs') ?_ ?_ fun _ _ x => x)
  · have pop : name ∈ hs ∨ -name ∈ hs → ∀ tk, wpAny (model PP w) A (execs (ifB w) env) (fun fl s' => fl = Flow.next ∧ ∃ h tk m' ld' litss' f' seen' asg' hs' kvs', s' = { s with heap := h, toks := tk } ∧ Z b L m' ld' h ∧ KeepX hl wd cs p ld ld' ∧ LS w b L m' ld' wc fc nl cD hl wd ns cs litss' p f' seen' asg' hs' kvs' ∧ LP litss' f' seen' hs' kvs') (fun _ _ => False) { s with heap := h₂, toks := tk } := fun hin tk => by
      have hne : hs ≠ [] := by rintro rfl; simp at hin
      obtain ⟨hs0, last, rfl⟩ : ∃ hs0 last, hs = hs0 ++ [last] := ⟨hs.dropLast, hs.getLast hne, (List.dropLast_concat_getLast hne).symm⟩
      refine turn_pop (s := { s with heap := h₂, toks := tk }) C r e hce z S1 P fun h' tk m' ld' f' seen' asg' kvs' z K S' P' => ?_
      exact ⟨rfl, _, _, _, _, _, _, _, _, _, _, rfl, z, K, S', P'⟩
    refine wpAny_If (isTrue_or (wpAny_isTrue_Compare1 (ev_loc e z hmn (ev_loc e z S1.mh (in_ints z g1 g2 (wpAny_truthy_bool ?_))))))
    by_cases c1 : name ∈ hs
    · rw [if_pos (decide_eq_true c1), if_pos rfl]
      exact pop (.inl c1) _
    · rw [if_neg (by simp [c1])]
      refine isTrue_or (wpAny_isTrue_Compare1 (wpAny_UnaryOp (ev_loc e z hmn (neg_int (ev_loc e z S1.mh (in_ints z g1 g2 (wpAny_truthy_bool ?_)))))))
      by_cases c2 : -name ∈ hs
      · rw [if_pos (decide_eq_true c2), if_pos rfl]
        exact pop (.inr c2) _
      · rw [if_neg (by simp [c2])]
        refine isTrue_or_nil ?_
        rw [if_neg (by decide)]
        refine turn_push (s := { s with heap := h₂, toks := _ }) C r e hce z S1 P hmc2 hmn ⟨n1, n2⟩ c1 c2 fun h' tk m' ld' litss' f' seen' asg' hs' kvs' z K S' P' => ?_
        exact ⟨rfl, _, _, _, _, _, _, _, _, _, _, rfl, z, K, S', P'⟩
  rintro fl s' ⟨rfl, h₃, tk₃, m₃, l3, litss', f', seen', asg', hs', kvs', rfl, z, K, S', P'⟩
  dsimp only
  refine wpAny_execs_cons (turn_seen (cells := []) (s := { s with heap := h₃, toks := tk₃ }) C r e z S' P' fun h' tk m' ld' z hm' hk' => ?_)
  refine wpAny_execs_nil (h _ _ _ _ _ _ _ _ _ _ z (K.trans (.more hk')) (S'.on (fun x hx => ?_) fun a _ o q => hk' a o q) P')
  simp only [List.mem_cons, List.not_mem_nil, or_false] at hx
  rcases hx with rfl | rfl | rfl | rfl <;> exact hm' _ (by decide)
end
end Mine

namespace Mine
section
variable {w : World} {A : Around} {E : Value → Shared → Prop} {s : Shared} {mg mb : Str → Option Value} {b : Heap} {L : Addr} {m : Loc} {ld : Ld} {env : Env}
  {wc fc nl cD hl wd : Addr} {ns : List Int} {cs : List CA} {litss : List (List Int)} {p : AsAddr} {f : Int → Option Bool} {seen asg hs : List Int} {kvs : List (Int × Value)}

set_option maxHeartbeats 4000000 in
theorem law_loop {Q : Flow → Shared → Prop}
    (C : Cx (KK w) mg mb b) (r : Room A 5) (e : EnvIs env (lawS w) L) (hce : env.cells.lookup ("want" : Str) = some wc) (z : Z b L m ld s.heap)
    (S : LS w b L m ld wc fc nl cD hl wd ns cs litss p f seen asg hs kvs) (P : LP litss f seen hs kvs)
    (h : ∀ h' tk m' ld' litss' f' seen' asg' hs' kvs', Z b L m' ld' h' → LS w b L m' ld' wc fc nl cD hl wd ns cs litss' p f' seen' asg' hs' kvs' → LP litss' f' seen' hs' kvs' → Q .next { s with heap := h', toks := tk }) :
    wpAny (model PP w) A (exec ((lawB w).getD 7 (.Pass default)) env) Q (fun _ _ => False) s := by
  show wpAny _ _ (exec (.For (.Name "turn" _) _ (turnB w) [] _) env) _ _ _
  refine wpAny_For (Call_ (ev_bi e C z rfl boot_range (Pv.callWith_type1 (args_cons (wpAny_Constant_int (args_nil ?_)))))) (by intro _; rfl)
  refine iter_rangeI r e z (n := 24) rfl (by decide) (fun I i m' l' => I ∉ foot wc fc nl cD hl wd cs p ∧ ∃ litss' f' seen' asg' hs' kvs', LS w b L m' l' wc fc nl cD hl wd ns cs litss' p f' seen' asg' hs' kvs' ∧ LP litss' f' seen' hs' kvs') ?_ ?_ ?_ ?_
  · intro I ld₁ hI q
    refine ⟨fun hm => ?_, _, _, _, _, _, _, S.on (fun _ _ => rfl) fun a _ o qa => q a o qa, P⟩
    obtain ⟨o, qo⟩ := S.has hm; rw [hI] at qo; cases qo
  · rintro I hI i m₁ l₁ l₂ ⟨q1, litss', f', seen', asg', hs', kvs', q2, q3⟩ q6
    exact ⟨q1, _, _, _, _, _, _, q2.on (fun _ _ => rfl) fun a ha o qa => by rw [q6 a fun e => q1 (e ▸ ha)]; exact qa, q3⟩
  · rintro I oI i t m₁ lq h₁ tk₁ hI hqI hi ⟨q1, litss', f', seen', asg', hs', kvs', q2, q3⟩ z
    have S1 := q2.on (m' := fun y => if y = ("turn" : Str) then some (Value.int i t) else m₁ y) (ld' := lq) (fun x hx => by
      simp only [List.mem_cons, List.not_mem_nil, or_false] at hx
      rcases hx with rfl | rfl | rfl | rfl <;> rfl) fun _ _ _ q => q
    refine turn_whole (s := { s with heap := h₁, toks := tk₁ }) C r e hce z S1 q3 rfl fun h' tk m' ld' litss'' f'' seen'' asg'' hs'' kvs'' z K S2 P2 => ?_
    refine ⟨_, _, _, _, rfl, z, ⟨q1, _, _, _, _, _, _, S2, P2⟩, fun a ha => ?_⟩
    rw [List.mem_singleton.mp ha, K I oI (fun hT => q1 (turned_foot hT)) hqI, hqI]
  · rintro m₁ lq h₁ tk₁ I ⟨q1, litss', f', seen', asg', hs', kvs', q2, q3⟩ z
    exact h _ _ _ _ _ _ _ _ _ _ z q2 q3

theorem Z.called {h h' : Heap} {ld' : Ld} (z : Z b L m ld h) (led : Led ld' h') (hk : ∀ a o, h.get? a = some o → ld' a = some o) : Z b L m (off L ld') h' where
  ns := z.ns.at' fun o q => led _ _ (hk _ _ q)
  led := fun a o q => by
    unfold off at q
    split at q
    · cases q
    · exact led _ _ q
  fr := by unfold off; rw [if_pos rfl]
  base := fun a o q => by
    have := z.base a o q
    unfold off; rw [if_neg (z.neL this)]; exact hk _ _ (z.led _ _ this)
  above := z.above
theorem off_old {a : Addr} {o : Obj} {ld' : Ld} {h : Heap} (z : Z b L m ld h) (hk : ∀ a o, h.get? a = some o → ld' a = some o) (q : ld a = some o) : off L ld' a = some o := by
  unfold off; rw [if_neg (z.neL q)]; exact hk _ _ (z.led _ _ q)
theorem off_new {a : Addr} {h : Heap} {ld' : Ld} (z : Z b L m ld h) (q : h.get? a = none) : off L ld' a = ld' a := by
  unfold off; rw [if_neg fun e => by
    obtain ⟨oL, hL, _⟩ := LCg.ns_obj z.ns
    rw [e, hL] at q; cases q]

theorem ev_dictN {pos : Pos} {Q : Value → Shared → Prop} (z : Z b L m ld s.heap)
    (h : ∀ D h', ld D = none → New b D → Z b L m (upd ld D (dictOf [] 0)) h' → Q (.ref D) { s with heap := h' }) : wpAny (model PP w) A (eval (.Dict [] [] pos) env) Q E s :=
  ev_dict0 z fun h' z' => h _ h' z.size_none z.bs.size z'

theorem dedup_nodup (l : List Int) : (dedup l).Nodup := by
  have : ∀ (l acc : List Int), acc.Nodup → (l.foldl (fun acc k => if k ∈ acc then acc else acc ++ [k]) acc).Nodup := fun l => by
    induction l with
    | nil => intro acc h; exact h
    | cons k l ih =>
      intro acc h
      refine ih _ ?_
      dsimp only
      split
      · exact h
      · rename_i hk
        rw [List.nodup_append]
        exact ⟨h, by simp, fun a ha b hb e => hk (by rw [← List.mem_singleton.mp hb, ← e]; exact ha)⟩
  exact this l [] (by simp)

theorem ev_uptoI {x : Str} {px p1 p2 p3 : Pos} {l : Addr} {vs : List Value} {k : Nat} {j : Nat} {Q : Value → Shared → Prop} {sc : Scope} (e : EnvIs env sc L) (z : Z b L m ld s.heap) (hx : m x = some (.ref l)) (hl : s.heap.IsList l vs.toArray)
    (hsz : vs.length ≤ 1000)
    (h : ∀ a h' tk, ld a = none → Z b L m (upd ld a (listOf (vs.take k).toArray 0)) h' → Q (.ref a) { s with heap := h', toks := tk })
    (hn : sc.names.lookup x = some .local := by rfl) (hd : (x == ("__debug__" : Str)) = false := by decide) :
    wpAny (model PP w) A (eval (.Subscript (.Name x px) (.Slice none (some (.Constant (.int k) j p1)) none p2) p3) env) Q E s := by
  refine Subscript_ (ev_loc e z hx ?_ hn hd)
  refine wpAny_Slice (evalPart_none_step (evalPart_some_step (wpAny_Constant_int (evalPart_none_step ?_))))
  refine slice_listK (s := { s with toks := s.toks + 1 }) hl .none (.int k s.toks) ?_ (hsz := by rw [List.size_toArray]; exact Nat.le_trans hsz (by decide))
  have z1 := z.push { cls := .type "slice", data := .fields #[.none, .int k s.toks, .none] }
  have z2 := z1.push { cls := .type "list", data := .seq (slicePick vs.toArray none (some k) none) }
  rw [Heap.size_push] at z2
  refine h _ _ _ ?_ (z2.mono (fun a o q => ?_) fun a o q => ?_)
  · exact z.none1
  · by_cases q1 : a = s.heap.objs.size + 1
    · subst q1; rw [upd_self] at q ⊢; rw [← q, slicePick_upto']
    · rw [upd_ne q1] at q ⊢
      rw [upd_ne (ne_of_lt1 (z.lt q))]; exact q
  · rw [upd_ne (ne_of_lt2 (z.blt q))]; exact z.base _ _ q

set_option maxHeartbeats 4000000 in
/-- the statements ahead of the loop -/
theorem law_init {l : Addr} {vs : List Value} {nums : List Int} {ov1 ov2 : Option Value} {cells : List (Str × Addr)} {Q : Flow → Shared → Prop}
    (C : Cx (KK w) mg mb b) (r : Room A 6) (e : EnvIs env (lawS w) L) (hcs : env.cells = cells) (hcw : cells.lookup ("want" : Str) = some wc) (z : Z b L m ld s.heap) (hwc : CellIs ld wc ov1) (hwn : New b wc) (hfc : CellIs ld fc ov2) (hwf : wc ≠ fc)
    (hms : m "script" = some (.ref l)) (hl : s.heap.IsList l vs.toArray) (hi : IntsAre vs nums) (hlen : vs.length ≤ 63)
    (h : ∀ h' tk m' ld' nl cD hl wd ns cs litss p f seen asg hs kvs, Z b L m' ld' h' → LS w b L m' ld' wc fc nl cD hl wd ns cs litss p f seen asg hs kvs → LP litss f seen hs kvs →
      wpAny (model PP w) A (execs ((lawB w).drop 7) env) Q (fun _ _ => False) { s with heap := h', toks := tk }) :
    wpAny (model PP w) A (execs (lawB w) env) Q (fun _ _ => False) s := by
  show wpAny _ _ (execs (.Assign [.Name "numbers" _] (.BoolOp .Or [_, _] _) _ :: .Assign [.Name "pool" _] _ _ :: (lawB w).getD 2 (.Pass default) :: (lawB w).getD 3 (.Pass default) :: .Assign [.Name "assignments" _] _ _ :: .Assign [.Name "want" _] _ _ :: .Assign [.Name "held" _] _ _ :: (lawB w).drop 7) env) _ _ _
  -- numbers
  refine wpAny_execs_cons (wpAny_Assign_Name (wpAny_mono (Q := fun v s' => ∃ nl nvs nn ns h tk ld', v = .ref nl ∧ s' = { s with heap := h, toks := tk } ∧ Z b L m ld' h ∧ (∀ a o, ld a = some o → ld' a = some o) ∧ ld' nl = some (listOf nvs.toArray nn) ∧ IntsAre nvs ns ∧ ns ≠ [] ∧ ns.length ≤ 24) ?_ ?_ fun _ _ x => x))
  · refine ev_or2 (ev_uptoI e z hms hl (by omega) fun a h₁ tk₁ ha z => ?_)
    refine wpAny_truthy_list (s := { s with heap := h₁, toks := tk₁ }) (z.isL upd_self) (by rw [List.size_toArray, List.length_take]; omega) ?_
    have hvl : (vs.take 24).length = (nums.take 24).length := (hi.take 24).length
    by_cases hz : (vs.take 24).toArray.size = 0
    · rw [show (vs.take 24).toArray.isEmpty = true from by rw [Array.isEmpty, hz]; rfl, if_neg (by decide)]
      refine ev_list (b := b) (L := L) (args_cons (wpAny_Constant_int (args_nil ⟨_, _, z, by simp, fun D h₂ hD hDn z => ?_⟩)))
      exact ⟨D, _, _, [0], _, _, _, rfl, rfl, z, fun a' o q => upd_old hD (upd_old ha q), upd_self, .cons 0 _ .nil, by simp, by simp⟩
    · rw [show (vs.take 24).toArray.isEmpty = false from by rw [Array.isEmpty, decide_eq_false hz], if_pos (by decide)]
      refine ⟨a, _, _, nums.take 24, _, _, _, rfl, rfl, z, fun a' o q => upd_old ha q, upd_self, hi.take 24, fun q => ?_, by rw [List.length_take]; omega⟩
      rw [q] at hvl; rw [List.size_toArray, hvl] at hz; exact hz rfl
  rintro v s' ⟨nl, nvs, nn, ns, h₁, tk₁, l1, rfl, rfl, z, K1, hn1, hn2, hn3, hn4⟩
  refine st_loc e z fun h₂ z => ?_
  dsimp only
  -- pool
  refine wpAny_execs_cons (wpAny_Assign_Name (Call_ (ev_glob e C z rfl (cw_K C rfl (args_cons (ev_loc e z rfl (args_nil ⟨z.stays, ?_⟩)))))))
  refine pool_spec C z.bs (r.le (by omega)) (z.led _ _ hn1) hn2 hn3 (by omega) fun h₃ tk₃ D ps nss ld₃ led₃ hk₃ hD0 hDn hD1 hR h4 hW => ?_
  have hold : ∀ a o, l1 a = some o → off L ld₃ a = some o := fun a o q => off_old z hk₃ q
  have hoD : off L ld₃ D = some (lstO (ps.map .ref)) := (off_new z hD0).trans hD1
  have hoR : Rows2 (off L ld₃) ps nss := hR.mono fun p hp o q => by
    obtain ⟨ys, hy⟩ := hR.has hp
    unfold off
    rw [if_neg fun e => by
      obtain ⟨oL, hL, es, ep, hdd, _⟩ := LCg.ns_obj z.ns
      have := hk₃ _ _ hL
      rw [← e, hy] at this; cases this; cases hdd]
    exact q
  have z := z.called led₃ hk₃
  generalize off L ld₃ = l2 at z hold hoD hoR
  refine st_loc e z fun h₄ z => ?_
  dsimp only
  refine wpAny_execs_cons (law_clauses (mm := 4) C r e hcs z rfl hoD hoR h4 (fun ms hm => (hW ms hm).2) fun h₅ tk₅ l3 F cs z K3 hF0 hF1 hCls hfresh => ?_)
  refine wpAny_execs_cons (law_same (mm := 4) C r e hcs z rfl rfl (K3 _ _ hoD) (hoR.mono fun p _ o q => K3 _ _ q) h4 (fun ms hm => (hW ms hm).2) hF1 hCls fun h₆ tk₆ l4 z K4 => ?_)
  -- assignments
  refine wpAny_execs_cons (wpAny_Assign_Name (Call_ (ev_glob e C z rfl (cw_K0 C z rfl ?_))))
  refine mkASet_spec C z.bs (r.le (by omega)) fun h₇ tk₇ ld₇ p led₇ hok hpn hk₇ hp0 hAS => ?_
  have hp5 : ∀ c ∈ p.a :: p.W, off L ld₇ c = ld₇ c := fun c hc => off_new z (hp0 c hc)
  have hAS5 : AS PP w (off L ld₇) p (fun _ => none) [] [] := hAS.congr (hp5 _ (by simp)) fun c hc => hp5 c (List.mem_cons_of_mem _ hc)
  have K5 : ∀ a o, l4 a = some o → off L ld₇ a = some o := fun a o q => off_old z hk₇ q
  have hpf : ∀ c ∈ p.a :: p.W, l4 c = none := fun c hc => by
    cases q : l4 c with
    | none => rfl
    | some o => have := z.led _ _ q; rw [hp0 c hc] at this; cases this
  have z := z.called led₇ hk₇
  generalize off L ld₇ = l5 at z hAS5 K5
  refine st_loc e z fun h₈ z => ?_
  dsimp only
  have K05 : ∀ a o, ld a = some o → l5 a = some o := fun a o q => K5 _ _ (K4 _ _ (K3 _ _ (hold _ _ (K1 _ _ q))))
  -- want = {}
  have hc1 : CellIs l5 wc ov1 := by obtain ⟨o, q1, q2⟩ := hwc; exact ⟨o, K05 _ _ q1, q2⟩
  have hc2 : CellIs l5 fc ov2 := by obtain ⟨o, q1, q2⟩ := hfc; exact ⟨o, K05 _ _ q1, q2⟩
  refine wpAny_execs_cons (wpAny_Assign_Name (ev_dictN z fun wd h₉ hwd0 hwdn z => ?_))
  have hc1' : CellIs (upd l5 wd (dictOf [] 0)) wc ov1 := by obtain ⟨o, q1, q2⟩ := hc1; exact ⟨o, upd_old hwd0 q1, q2⟩
  refine st_cell e (by rw [hcs]; exact hcw) z hc1' (New.none hwn) fun h₁₀ l6 z hc6 K6 => ?_
  dsimp only
  have hwc_ne : ∀ a o, a ≠ wc → l5 a = some o → l6 a = some o := fun a o q1 q2 => by rw [K6 a q1]; exact upd_old hwd0 q2
  -- held = []
  refine wpAny_execs_cons (wpAny_Assign_Name (ev_nil z fun hl h₁₁ hhl0 hhln z => st_loc e z fun h₁₂ z => ?_))
  dsimp only
  obtain ⟨ocw, qcw, qcd⟩ := hc1
  have ncell : ∀ a o, l5 a = some o → o.data ≠ ocw.data → a ≠ wc := fun a o q1 q2 => ne_of_obj q1 qcw q2
  have keep : ∀ a o, l5 a = some o → o.data ≠ ocw.data → upd l6 hl (lstO []) a = some o := fun a o q1 q2 => upd_old hhl0 (hwc_ne a o (ncell a o q1 q2) q1)
  have k3 : ∀ a o, l3 a = some o → l5 a = some o := fun a o q => K5 _ _ (K4 _ _ q)
  have hnl : l5 nl = some (listOf nvs.toArray nn) := k3 _ _ (K3 _ _ (hold _ _ hn1))
  have hwdwc : wd ≠ wc := fun e => by rw [e, qcw] at hwd0; cases hwd0
  have hlw : hl ≠ wc := fun e => by obtain ⟨o, q, _⟩ := hc6; rw [e, q] at hhl0; cases hhl0
  have h6wd : l6 wd = some (dictOf [] 0) := by rw [K6 wd hwdwc]; exact upd_self
  have fresh_hl : ∀ a o, l5 a = some o → a ≠ hl := fun a o q e => by
    by_cases hq : a = wc
    · exact hlw (by rw [← e]; exact hq)
    · have := hwc_ne a o hq q; rw [e, hhl0] at this; cases this
  have hCls5 : Cls b l5 cs (nss.map dedup) := hCls.mono fun a _ k _ o q => k3 _ _ q
  refine h _ _ _ _ nl F hl wd ns cs (nss.map dedup) p (fun _ => none) [] [] [] [] z ?_ ?_
  · have hasW : ∀ c ∈ p.W, ∃ o, l5 c = some o ∧ (o.cls = .type "dict" ∨ o.cls = .type "set") ∧ o.data ≠ ocw.data := fun c hc => by
      obtain ⟨o, q1, q2⟩ := as_clsW hAS5 hc
      refine ⟨o, q1, q2, fun q3 => as_cellW hAS5 (c := c) (ov := ov1) ⟨o, q1, by rw [q3, qcd]⟩ hc⟩
    exact {
      mn := rfl
      mc := rfl
      ma := rfl
      mh := rfl
      nums := ⟨nvs, nn, keep _ _ hnl (by rw [qcd]; simp), hn2⟩
      ns0 := hn3
      nsl := hn4
      cls := keep _ _ (k3 _ _ hF1) (by rw [qcd]; simp)
      cl := hCls5.mono fun a ha k hk o q => by
        refine keep k o q ?_
        obtain ⟨i, lits, _, _, hc⟩ := hCls5.get ha
        obtain ⟨_, _, _, _, _, _, _, hd⟩ := hc.dict
        obtain ⟨_, _, hli, _⟩ := hc.list
        simp only [CA.all, List.mem_cons, List.not_mem_nil, or_false] at hk
        rcases hk with rfl | rfl | rfl
        · rw [hc.inst] at q; cases q; rw [qcd]; simp
        · rw [hd] at q; cases q; rw [qcd]; simp
        · rw [hli] at q; cases q; rw [qcd]; simp
      c4 := by rw [hCls.len, List.length_map, ← hoR.1, h4]
      ok := hok
      as := hAS5.congr (by rw [keep _ _ hAS5.inst (by rw [qcd]; simp)]; exact hAS5.inst.symm) fun c hc => by
        obtain ⟨o, q1, _, q2⟩ := hasW c hc
        rw [keep c o q1 q2, q1]
      held := ⟨[], 0, upd_self, .nil⟩
      hln := hhln
      want := by obtain ⟨o, q1, q2⟩ := hc6; exact ⟨o, upd_old hhl0 q1, q2⟩
      found := ⟨ov2, by obtain ⟨o, q1, q2⟩ := hc2; exact ⟨o, upd_old hhl0 (hwc_ne _ _ (Ne.symm hwf) q1), q2⟩⟩
      wdo := ⟨_, upd_old hhl0 h6wd, isDict_nil⟩
      wdn := hwdn
      d1 := ⟨Ne.symm (fresh_hl _ _ hnl), Ne.symm (fresh_hl _ _ (k3 _ _ hF1)), fun a ha => by
        obtain ⟨i, lits, _, _, hc⟩ := hCls5.get ha
        obtain ⟨_, _, hli, _⟩ := hc.list
        obtain ⟨f1, f2⟩ := hfresh a ha a.l (by simp [CA.all])
        refine ⟨fresh_hl _ _ hli, fun e => ?_, f2⟩
        rw [e, hold _ _ hn1] at f1; cases f1⟩
      d2 := fun hm => by obtain ⟨o, q, _⟩ := hasW wd hm; rw [hwd0] at q; cases q
      d3 := fun a ha => by
        obtain ⟨i, lits, _, _, hc⟩ := hCls.get ha
        obtain ⟨_, _, _, _, _, _, _, hd⟩ := hc.dict
        refine ⟨fun hm => ?_, fun e => ?_⟩
        · have := hpf a.d (List.mem_cons_of_mem _ hm); rw [K4 _ _ hd] at this; cases this
        · rw [← e, k3 _ _ hd] at hwd0; cases hwd0 }
  · refine ⟨HsOk.nil, fun k => by simp, fun k => by simp [valueAt], fun lits hl' => ?_⟩
    obtain ⟨ms, hms, rfl⟩ := List.mem_map.mp hl'
    exact ⟨dedup_nodup ms, Nat.le_trans (dedup_len ms) (hW ms hms).2, Watch.nil _⟩
end
end Mine

namespace Mine

/-- every leaf is good, every question is about numbers below n -/
def KAll {α : Type} (n : Nat) (G : α → Prop) : KasT α → Prop
  | .ret a => G a
  | .ask i j k => i < n ∧ j < n ∧ ∀ b, KAll n G (k b)

theorem KAll.bind {α β : Type} {n : Nat} {G : α → Prop} {G' : β → Prop} {f : α → KasT β} : ∀ (t : KasT α), KAll n G t → (∀ a, G a → KAll n G' (f a)) → KAll n G' (t.bind f)
  | .ret a, h, hf => hf a h
  | .ask i j k, h, hf => ⟨h.1, h.2.1, fun b => KAll.bind (k b) (h.2.2 b) hf⟩
theorem KAll.mono {α : Type} {n : Nat} {G G' : α → Prop} (hG : ∀ a, G a → G' a) : ∀ (t : KasT α), KAll n G t → KAll n G' t
  | .ret a, h => hG a h
  | .ask i j k, h => ⟨h.1, h.2.1, fun b => KAll.mono hG (k b) (h.2.2 b)⟩
theorem KAll.wp {α : Type} {n : Nat} {G : α → Prop} {cmp : Nat → Nat → (Bool → Shared → Prop) → Shared → Prop} {Inv : Shared → Prop} {Q : α → Shared → Prop}
    (hc : ∀ i j (C : Bool → Shared → Prop) s, i < n → j < n → Inv s → (∀ b s', Inv s' → C b s') → cmp i j C s) (hQ : ∀ a s, G a → Inv s → Q a s) : ∀ (t : KasT α) (s : Shared), KAll n G t → Inv s → t.kasWp cmp Q s
  | .ret a, s, h, hi => hQ a s h hi
  | .ask i j k, s, h, hi => hc i j _ s h.1 h.2.1 hi fun b s' hi' => KAll.wp hc hQ (k b) s' (h.2.2 b) hi'

def OkP (n : Nat) (p : Array Nat) : Prop := p.toList.Perm (List.range n)
theorem OkP.lt {n : Nat} {p : Array Nat} (h : OkP n p) (h1 : 1 ≤ n) (i : Nat) : p.getD i 0 < n := by
  unfold Array.getD
  split
  · rename_i hi
    have : p[i] ∈ p.toList := by simp
    exact List.mem_range.mp (h.mem_iff.mp this)
  · exact h1
theorem OkP.rev {n : Nat} {p : Array Nat} (h : OkP n p) (i j : Nat) : OkP n (kas_rev p i j) := (Array.perm_iff_toList_perm.mp (mirror_perm p i j _)).trans h
theorem OkP.bub {n : Nat} {p : Array Nat} (h : OkP n p) (i j : Nat) : OkP n (bubble p i j) := (Array.perm_iff_toList_perm.mp (bubble_perm p i j)).trans h

theorem all_asc {n : Nat} {p : Array Nat} (h : OkP n p) (h1 : 1 ≤ n) : ∀ f m, KAll n (fun _ => True) (kas_asc p f m)
  | 0, m => trivial
  | f + 1, m => ⟨h.lt h1 _, h.lt h1 _, fun b => by
    dsimp only
    split
    · exact trivial
    · exact all_asc h h1 f (m + 1)⟩
theorem all_desc {n : Nat} (h1 : 1 ≤ n) : ∀ f (p : Array Nat) m q, OkP n p → KAll n (fun r => OkP n r.1) (kas_desc f p m q)
  | 0, p, m, q, h => h
  | f + 1, p, m, q, h => ⟨h.lt h1 _, h.lt h1 _, fun b => by
    dsimp only
    split
    · split
      · exact all_desc h1 f _ _ _ (h.rev _ _)
      · exact all_desc h1 f _ _ _ h
    · refine ⟨h.lt h1 _, h.lt h1 _, fun c => ?_⟩
      dsimp only
      split
      · exact h
      · exact all_desc h1 f _ _ _ h⟩
theorem all_tail {n : Nat} (h1 : 1 ≤ n) {p : Array Nat} (h : OkP n p) (m nr : Nat) : KAll n (fun r => OkP n r.2) (kas_tail3 m nr p) :=
  KAll.bind _ (all_asc (h.rev _ _) h1 _ _) fun _ _ => h.rev _ _
theorem all_descPart {n : Nat} (h1 : 1 ≤ n) {p : Array Nat} (h : OkP n p) (m nr : Nat) : KAll n (fun r => OkP n r.2) (kas_descPart m nr p) :=
  KAll.bind _ (all_desc h1 _ _ _ _ h) fun r hr => by
    split
    · exact all_tail h1 (hr.rev _ _) _ _
    · exact all_tail h1 hr _ _
theorem all_count {n : Nat} (h1 : 1 ≤ n) {p : Array Nat} (h : OkP n p) (nr : Nat) : KAll n (fun r => OkP n r.2) (kas_count nr p) :=
  KAll.bind _ (all_asc h h1 _ _) fun m _ => by
    split
    · exact h
    · split
      · refine ⟨h.lt h1 _, h.lt h1 _, fun b => ?_⟩
        dsimp only
        split
        · exact h
        · exact all_descPart h1 (h.rev _ _) _ _
      · exact all_descPart h1 h _ _
theorem all_place {n : Nat} (h1 : 1 ≤ n) {p : Array Nat} (h : OkP n p) (k : Nat) : ∀ f l r, KAll n (fun _ => True) (kas_place p k f l r)
  | 0, l, r => trivial
  | f + 1, l, r => by
    unfold kas_place
    split
    · exact trivial
    · refine ⟨h.lt h1 _, h.lt h1 _, fun b => ?_⟩
      dsimp only
      split
      · exact all_place h1 h k f _ _
      · exact all_place h1 h k f _ _
theorem all_bin {n : Nat} (h1 : 1 ≤ n) : ∀ f (p : Array Nat) k, OkP n p → KAll n (OkP n) (kas_bin f p k)
  | 0, p, k, h => h
  | f + 1, p, k, h => KAll.bind _ (all_place h1 h k k 0 k) fun l _ => all_bin h1 f _ _ (h.bub _ _)
theorem all_sort {n : Nat} (h1 : 1 ≤ n) : KAll n (OkP n) (kas_sort n) :=
  KAll.bind _ (all_count h1 (show OkP n (List.toArray (List.range n)) from .refl _) n) fun r hr => by
    split
    · exact all_bin h1 _ _ _ hr
    · exact hr

/-- the list that a good permutation picks -/
theorem pick_all {vs : List Value} {p : Array Nat} (h : OkP vs.length p) : (p.toList.map fun i => vs.getD i Value.none).Perm vs := by
  have h1 := h.map fun i => vs.getD i Value.none
  have h2 : (List.range vs.length).map (fun i => vs.getD i Value.none) = vs := by
    refine List.ext_getElem (by simp) fun i a b => ?_
    have : i < vs.length := b
    simp [this]
  rwa [h2] at h1
end Mine

namespace Mine
open SetTable

theorem slot_si_next : Slot "set_iterator" "__next__" "set_iterator.__next__" :=
  .of (owner := "set_iterator") (n := "__next__") (by rw [typeLookup_type, builtinLookup_eq_fast]; kernel_rfl) (by decide +kernel) (by decide +kernel) (by decide +kernel)
    (by first | exact .inl (by decide +kernel) | exact .inr (by decide +kernel)) (by rw [isSubtype_type]; kernel_rfl)
theorem slot_si_iter : Slot "set_iterator" "__iter__" "set_iterator.__iter__" :=
  .of (owner := "set_iterator") (n := "__iter__") (by rw [typeLookup_type, builtinLookup_eq_fast]; kernel_rfl) (by decide +kernel) (by decide +kernel) (by decide +kernel)
    (by first | exact .inl (by decide +kernel) | exact .inr (by decide +kernel)) (by rw [isSubtype_type]; kernel_rfl)
theorem entry_si_next : entryFor table "set_iterator.__next__" = some Builtin.«set_iterator.__next__» := entryFor_of_tree (by kernel_rfl)
theorem entry_si_iter : entryFor table "set_iterator.__iter__" = some Builtin.«dict_keyiterator.__iter__» := entryFor_alias (id' := "dict_keyiterator.__iter__") (by kernel_rfl) rfl (by decide +kernel) (by kernel_rfl)
theorem args_si_next (a : Value) : argsOk "set_iterator.__next__" ⟨[a], []⟩ := by unfold argsOk; kernel_rfl
theorem args_si_iter (a : Value) : argsOk "set_iterator.__iter__" ⟨[a], []⟩ := by unfold argsOk; kernel_rfl
theorem entry_set_iter : entryFor table "set.__iter__" = some Builtin.«frozenset.__iter__» := entryFor_alias (id' := "frozenset.__iter__") (by kernel_rfl) rfl (by decide +kernel) (by kernel_rfl)
theorem args_set_iter (a : Value) : argsOk "set.__iter__" ⟨[a], []⟩ := by unfold argsOk; kernel_rfl

theorem pick_perm {α : Type} (next : Nat → Nat) : ∀ (fuel k : Nat) (left : List α) (out : Array α), left.length = fuel → (pickOrder.go next fuel k left out).toList.Perm (out.toList ++ left)
  | 0, k, left, out, h => by
    have : left = [] := List.eq_nil_of_length_eq_zero h
    subst this
    simp [pickOrder.go]
  | fuel + 1, k, left, out, h => by
    have hlt : next k % left.length < left.length := Nat.mod_lt _ (by omega)
    unfold pickOrder.go
    rw [List.getElem?_eq_getElem hlt]
    dsimp only
    refine (pick_perm next fuel (k + 1) _ _ (by rw [List.length_eraseIdx_of_lt hlt]; omega)).trans ?_
    rw [Array.toList_push, List.append_assoc]
    refine List.Perm.append_left _ ?_
    rw [List.singleton_append]
    rw [List.eraseIdx_eq_take_drop_succ]
    refine (List.perm_middle.symm).trans ?_
    rw [List.getElem_cons_drop hlt, List.take_append_drop]

abbrev byText (w : World) : Bool := w.params.followText "set-order"
/-- the order in which a set is walked -/
def walkOf (w : World) (a : Addr) (ep : Nat) (es : Array (Int × Value)) : Array (Int × Value) := if byText w = true then pickOrder (w.params.setOrder a ep) es else es
theorem walkOf_perm (w : World) (a : Addr) (ep : Nat) (es : Array (Int × Value)) : (walkOf w a ep es).toList.Perm es.toList := by
  unfold walkOf
  split
  · unfold pickOrder
    have := pick_perm (w.params.setOrder a ep) es.size 0 es.toList #[] (by simp)
    simpa using this
  · exact .refl _
theorem walkOf_size (w : World) (a : Addr) (ep : Nat) (es : Array (Int × Value)) : (walkOf w a ep es).size = es.size := by
  have := (walkOf_perm w a ep es).length_eq
  simpa using this

/-- the slot at which the walk goes on -/
def nextSlot (t : SetTable) : Nat → Nat
  | 0 => 0
  | j + 1 => t.place.getD j 0 + 1
def atSlot (w : World) (t : SetTable) (i : Nat) : Nat := if byText w = true then 0 else nextSlot t i

theorem below_at {t : SetTable} (hp : t.place.toList.Pairwise (· < ·)) {i : Nat} (hi : i ≤ t.place.size) : below t.place (nextSlot t i) = i := by
  obtain ⟨b1, b2, b3⟩ := below_spec (j := nextSlot t i) hp
  have hmon : ∀ a c (ha : a < t.place.size) (hc : c < t.place.size), a < c → t.place[a] < t.place[c] := fun a c ha hc hac => by
    have := List.pairwise_iff_getElem.mp hp a c (by simpa using ha) (by simpa using hc) hac
    simpa using this
  generalize hB : below t.place (nextSlot t i) = B at b1 b2 b3
  rcases Nat.lt_trichotomy B i with q | q | q
  · exfalso
    have hlt : B < t.place.size := by omega
    have h2 := b2 _ _ (Nat.le_refl _) (Array.getElem?_eq_getElem hlt)
    cases i with
    | zero => omega
    | succ j =>
      have hj : j < t.place.size := by omega
      have hg : nextSlot t (j + 1) = t.place[j] + 1 := by simp [nextSlot, Array.getD, hj]
      rw [hg] at h2
      rcases Nat.lt_or_ge B j with q' | q'
      · have := hmon _ _ hlt hj q'; omega
      · obtain rfl : B = j := by omega
        omega
  · exact q
  · exfalso
    have hlt : i < t.place.size := by omega
    have h1 := b1 i _ q (Array.getElem?_eq_getElem hlt)
    cases i with
    | zero => exact Nat.not_lt_zero _ h1
    | succ j =>
      have hj : j < t.place.size := by omega
      have hg : nextSlot t (j + 1) = t.place[j] + 1 := by simp [nextSlot, Array.getD, hj]
      rw [hg] at h1
      have := hmon j (j + 1) hj hlt (by omega)
      omega

abbrev siObj (w : World) (a : Addr) (es : Array (Int × Value)) (ep : Nat) (t : SetTable) (i : Nat) : Obj :=
  { cls := .type "set_iterator", data := .fields #[rawInt (atSlot w t i), rawInt i, .ref a, rawInt es.size, rawInt ep] }

theorem setDrawn_eq (a : Addr) : setDrawn a = (do let (es, _, t) ← setState a; let byText ← setsByText; return !byText && (!t.plain && decide (es.size > 1))) := rfl
theorem setNext_eq (a : Addr) (slot given epochThen : Nat) : setNext a slot given epochThen = (do
  let (es, epoch, t) ← setState a
  if ← setsByText then
    if epoch != epochThen then unsupported "set_iterator.__next__:elements-changed"
    return ((← setWalk a)[given]?).map fun e => (e.2, slot)
  if (!t.plain && decide (es.size > 1)) then unsupported "set_iterator.__next__:the-table-is-plain-no-more"
  (do if !t.led && !es.isEmpty then unsupported "set:maker-not-led")
  let i := SetTable.below t.place slot
  return match es[i]?, t.place[i]? with
    | some (_, x), some j => some (x, j + 1)
    | _, _ => none) := rfl

section
variable {prog : Program} {w : World} {A : Around} {E : Value → Shared → Prop} {s : Shared} {a I : Addr} {es : Array (Int × Value)} {ep : Nat} {t : SetTable}

theorem wp_byText {Q : Bool → Shared → Prop} (h : Q (byText w) s) : wpAny (model prog w) A setsByText Q E s := by
  unfold setsByText
  exact wpAny_bind (wpAny_askSetting (wpAny_pure h))

theorem pyIter_set {Q : Value → Shared → Prop} (ha : s.heap.get? a = some (setObj es ep t)) (hf : t.fits es.size = true) (hT : TabOk t)
    (hQ : Q (.ref s.heap.objs.size) { s with heap := s.heap.push (siObj w a es ep t 0) }) : wpAny (model prog w) A (pyIter (.ref a)) Q E s := by
  have hTy : s.TypeIs (.ref a) "set" := ⟨_, ha, rfl⟩
  refine wpAny_pyIter_slot hTy F.slot_set_iter (wpAny_call_entry F.slot_set_iter hTy entry_set_iter ?_ (args_set_iter _))
  unfold Builtin.«frozenset.__iter__»
  refine wpAny_bind (wpAny_pure ?_)
  unfold Builtin.Frozenset.sizeOf
  refine wpAny_bind (wpAny_bind (wpAny_setEntries_of ha rfl hf (wpAny_pure ?_)))
  refine wpAny_bind ?_
  rw [setDrawn_eq]
  refine wpAny_bind (wpAny_setState_of ha rfl hf (wpAny_bind (wp_byText (wpAny_pure ?_))))
  simp only [hT.plain, Bool.not_true, Bool.false_and, Bool.and_false, Bool.false_eq_true, if_false]
  refine wpAny_bind (wpAny_pure ?_)
  unfold setEpoch
  refine wpAny_bind (wpAny_bind (wpAny_setState_of ha rfl hf (wpAny_pure ?_)))
  refine wpAny_bind (wpAny_newObj_type (wpAny_pure ⟨_, rfl, "set_iterator", _, ⟨_, Heap.get?_push_size _ rfl, rfl⟩, slot_si_next.lookup, ?_⟩))
  have : atSlot w t 0 = 0 := by unfold atSlot nextSlot; split <;> rfl
  simpa [siObj, this] using hQ

theorem wp_setNext {i : Nat} {Q : Option (Value × Nat) → Shared → Prop} (ha : s.heap.get? a = some (setObj es ep t)) (hf : t.fits es.size = true) (hT : TabOk t) (hL : t.led = !byText w) (hi : i ≤ es.size)
    (h1 : ∀ e, (walkOf w a ep es)[i]? = some e → Q (some (e.2, atSlot w t (i + 1))) s) (h2 : i = es.size → Q none s) :
    wpAny (model prog w) A (setNext a (atSlot w t i) i ep) Q E s := by
  rw [setNext_eq]
  have hpz : t.place.size = es.size := by
    unfold SetTable.fits at hf
    rw [Bool.and_eq_true] at hf
    exact eq_of_beq hf.1
  refine wpAny_bind (wpAny_setState_of ha rfl hf (wpAny_bind (wp_byText ?_)))
  dsimp only
  cases hB : byText w with
  | true =>
    simp only [if_true, bne_self_eq_false, Bool.false_eq_true, if_false]
    unfold setWalk
    refine wpAny_bind (wpAny_bind (wpAny_setState_of ha rfl hf (wpAny_bind (wp_byText ?_))))
    rw [hB, if_pos rfl]
    refine wpAny_bind (wpAny_askSetting (wpAny_pure (wpAny_pure ?_)))
    have hw : walkOf w a ep es = pickOrder (w.params.setOrder a ep) es := by unfold walkOf; rw [if_pos hB]
    have hs : ∀ j, atSlot w t j = 0 := fun j => by unfold atSlot; rw [if_pos hB]
    show Q (((pickOrder (w.params.setOrder a ep) es)[i]?).map fun e => (e.2, atSlot w t i)) s
    rw [← hw]
    cases hq : (walkOf w a ep es)[i]? with
    | some e => have := h1 e hq; rw [hs] at this ⊢; exact this
    | none =>
      refine h2 ?_
      have := Array.getElem?_eq_none_iff.mp hq
      rw [walkOf_size] at this
      omega
  | false =>
    simp only [Bool.false_eq_true, if_false, hT.plain, Bool.not_true, Bool.false_and, hL, hB, Bool.not_false]
    have hw : walkOf w a ep es = es := by unfold walkOf; rw [if_neg (by rw [hB]; exact Bool.false_ne_true)]
    have hs : ∀ j, atSlot w t j = nextSlot t j := fun j => by unfold atSlot; rw [if_neg (by rw [hB]; exact Bool.false_ne_true)]
    refine wpAny_bind (wpAny_pure (wpAny_pure ?_))
    rw [hs, below_at hT.rising (by omega)]
    rw [hw] at h1
    by_cases hlt : i < es.size
    · rw [Array.getElem?_eq_getElem hlt, Array.getElem?_eq_getElem (by omega : i < t.place.size)]
      have := h1 _ (Array.getElem?_eq_getElem hlt)
      rw [hs] at this
      simpa [nextSlot, Array.getD, hpz, hlt] using this
    · rw [Array.getElem?_eq_none (by omega)]
      exact h2 (by omega)

end
end Mine

namespace Mine
open SetTable
section
variable {prog : Program} {w : World} {A : Around} {E : Value → Shared → Prop} {s : Shared} {a I : Addr} {es : Array (Int × Value)} {ep : Nat} {t : SetTable}

theorem next_set {i : Nat} {Q : Option Value → Shared → Prop} (hh : A.handled = none) (hI : s.heap.get? I = some (siObj w a es ep t i)) (ha : s.heap.get? a = some (setObj es ep t)) (hne : I ≠ a) (hf : t.fits es.size = true) (hT : TabOk t) (hL : t.led = !byText w) (hi : i ≤ es.size)
    (h1 : ∀ e h', (walkOf w a ep es)[i]? = some e → h'.get? I = some (siObj w a es ep t (i + 1)) → Heap.SameBut I s.heap h' → Q (some e.2) { s with heap := h' })
    (h2 : i = es.size → ∀ h', Heap.ExtBut I s.heap h' → Q none { s with heap := h' }) :
    wpAny (model prog w) A (pyNext (.ref I)) Q E s := by
  have hTy : s.TypeIs (.ref I) "set_iterator" := ⟨_, hI, rfl⟩
  unfold pyNext
  refine wpAny_bind (wpAny_attempt (wpAny_callSpecial?_slot (name := Str.ofString "__next__") hTy slot_si_next
    (wpAny_call_entry slot_si_next hTy entry_si_next ?_ (args_si_next _))))
  unfold Builtin.«set_iterator.__next__»
  refine wpAny_bind (wpAny_pure ?_)
  refine wpAny_bind (wpAny_fieldsOf hI rfl ?_)
  dsimp only
  refine wpAny_bind (wpAny_setEntries_of ha rfl hf ?_)
  show wpAny _ _ (if (((es.size : Int) != (es.size : Int)) = true) then _ else _) _ _ _
  rw [if_neg (by simp)]
  show wpAny _ _ (setNext a (atSlot w t i) i ep >>= _) _ _ _
  refine wpAny_bind (wp_setNext ha hf hT hL hi (fun e he => ?_) fun hin => ?_)
  · dsimp only
    show wpAny _ _ (setField (.ref I) 0 (rawInt (atSlot w t (i + 1))) >>= fun _ => setField (.ref I) 1 (rawInt ((i : Int) + 1)) >>= fun _ => ret e.2) _ _ _
    refine wpAny_bind (wpAny_setField_rec hI (by simp) fun h₁ e₁ s₁ => ?_)
    refine wpAny_bind (wpAny_setField_rec (s := { s with heap := h₁ }) e₁ (by simp) fun h₂ e₂ s₂ => ?_)
    refine wpAny_pure ⟨_, rfl, wpAny_pure (h1 e h₂ he ?_ ?_)⟩
    · rw [e₂]; simp [siObj, rawInt]
    · exact ⟨s₂.1.trans s₁.1, fun b hb => (s₂.2 b hb).trans (s₁.2 b hb)⟩
  · dsimp only
    refine wpAny_bind (wpAny_setField_rec hI (by simp) fun h₁ e₁ s₁ => ?_)
    show wpAny _ _ (newExc (.type "StopIteration") [] >>= _) _ _ _
    refine wpAny_bind ?_
    simp only [newExc, newTuple]
    refine wpAny_bind (wpAny_newObj_type ?_ (by size_fits))
    refine wpAny_bind (m := firstArgMember _ _) (wpAny_of_eq (a := Value.none) (by first | rfl | (simp only [firstArgMember]; rfl)) ?_)
    refine wpAny_newObj_type ?_ (by size_fits)
    simp only [raiseNew]
    refine wpAny_bind (wpAny_handled ?_)
    first | rw [show A.in1.handled = none from hh] | rw [hh]
    refine wpAny_throw ?_
    refine wpAny_bind (wpAny_isInstance (T := "StopIteration") (b := true) ⟨_, Heap.get?_push_size _ rfl, rfl⟩ isSubtype_stop ?_)
    refine wpAny_pure (h2 hin _ fun b o hb e => ?_)
    exact Heap.get?_push_of_some _ (Heap.get?_push_of_some _ (s₁.extBut b o hb e))

theorem iter_self {i : Nat} {Q : Value → Shared → Prop} (hI : s.heap.get? I = some (siObj w a es ep t i)) (hQ : Q (.ref I) s) : wpAny (model prog w) A (pyIter (.ref I)) Q E s := by
  have hTy : s.TypeIs (.ref I) "set_iterator" := ⟨_, hI, rfl⟩
  refine wpAny_pyIter_slot hTy slot_si_iter (wpAny_call_entry slot_si_iter hTy entry_si_iter ?_ (args_si_iter _))
  unfold Builtin.«dict_keyiterator.__iter__»
  exact wpAny_bind (wpAny_pure (wpAny_pure ⟨_, rfl, "set_iterator", _, hTy, slot_si_next.lookup, hQ⟩))

/-- a set is walked -/
theorem walks_set (hh : A.handled = none) (I a : Addr) (hne : I ≠ a) (es : Array (Int × Value)) (ep : Nat) (t : SetTable) (hf : t.fits es.size = true) (hT : TabOk t) (hL : t.led = !byText w) :
    Walks prog w A I [I, a] [I] es.size (fun i v => ∃ e, (walkOf w a ep es)[i]? = some e ∧ v = e.2) (fun i h => h.get? I = some (siObj w a es ep t i) ∧ h.get? a = some (setObj es ep t)) where
  sub := fun b hb => by simp at hb; simp [hb]
  frame := fun _ _ _ st hk => ⟨hk I (by simp) _ st.1, hk a (by simp) _ st.2⟩
  item := fun i s Q E hi st hQ => by
    refine next_set hh st.1 st.2 hne hf hT hL (Nat.le_of_lt hi) (fun e h' he hI' hs' => ?_) fun e => by omega
    exact hQ _ h' s.toks ⟨e, he, rfl⟩ ⟨hI', hs'.extBut _ _ (Ne.symm hne) st.2⟩ fun b o hb eb => hs'.extBut b o (fun q => hb (by simp [q])) eb
  done := fun s Q E st hQ => by
    refine next_set hh st.1 st.2 hne hf hT hL (Nat.le_refl _) (fun e h' he hI' hs' => ?_) fun _ h' he => hQ h' s.toks fun b o hb eb => he b o (fun q => hb (by simp [q])) eb
    have := (Array.getElem?_eq_some_iff.mp he).1
    rw [walkOf_size] at this
    omega
  self := fun i s Q E st hQ => iter_self st.1 hQ
end
end Mine

namespace Mine

abbrev HF := Nat → Value → Heap → Prop
def protoH (C : Addr) (fp wr : List Addr) (n₀ : Nat) (F : HF) : Protocol := fun m s₀ v s kap =>
  F (n₀ - 1 - m) v s.heap ∧ GenSince C wr s₀ s ∧ ∀ s'' : Shared, (∀ b ∈ C :: fp, ∀ o, s.heap.get? b = some o → s''.heap.get? b = some o) → kap (.send .none) s''

section
variable {prog : Program} {w : World} {A : Around}

/-- the element of a generator expression; what it makes is told of the heap too -/
def QuietH (prog : Program) (w : World) (cenv : Env) (x : Str) (elt : Expr) (fp wr : List Addr) (P : Nat → Value → Prop) (F : HF) (href : Heap) : Prop :=
  ∀ (A' : Around) E' i v (s₂ : Shared) m₂, A'.handled = none → P i v → s₂.heap.Ns cenv.locals m₂ → m₂ x = some v → (∀ b ∈ fp, b ∉ wr → ∀ o, href.get? b = some o → s₂.heap.get? b = some o) →
    wpAny (model prog w) A' (eval elt cenv) (fun y s₃ => F i y s₃.heap ∧ Keeps s₂ s₃) E' s₂

theorem seg_loopH {elt iter : Expr} {x : Str} {px : Pos} {scope : Scope} {pos : Pos} {I : Addr} {fp wr : List Addr} {n₀ : Nat} {P : Nat → Value → Prop} {St₀ : Nat → Heap → Prop} {cenv : Env}
    (hh : A.handled = none) (W₀ : ∀ A' : Around, A'.handled = none → Walks prog w A' I fp wr n₀ P St₀) (F : HF) (href : Heap)
    (hx : cenv.kindOf x = some .local) (hp : (cenv.scope.kind == .class || (cenv.scope.kind == .module && cenv.locals != cenv.globals)) = false)
    (hco : cenv.scope.isCoroutine = false) (hCf : cenv.locals ∉ fp) (hq : QuietH prog w cenv x elt fp wr P F href) :
    ∀ (k i : Nat) (s₀ s : Shared) (m : Str → Option Value), n₀ - i = k → i ≤ n₀ → St₀ i s.heap → s.heap.Ns cenv.locals m → GenSince cenv.locals wr s₀ s →
      (∀ b ∈ fp, b ∉ wr → ∀ o, href.get? b = some o → s.heap.get? b = some o) →
      Seg (model prog w) A (fun n s₀ r s₁ => r = .ok .next ∧ (n = 0 ∧ GenSince cenv.locals wr s₀ s₁)) (protoH cenv.locals fp wr n₀ F) (n₀ - i) s₀
        (.compLoop (.GeneratorExp elt [⟨.Name x px, iter, [], 0⟩] scope pos) 0 (.ref I) .none cenv)
        ((model prog w).den (.compLoop (.GeneratorExp elt [⟨.Name x px, iter, [], 0⟩] scope pos) 0 (.ref I) .none cenv)) [] s := by
  have hh' : (A.over (.compLoop (.GeneratorExp elt [⟨.Name x px, iter, [], 0⟩] scope pos) 0 (.ref I) .none cenv) []).handled = none := hh
  have hCw : cenv.locals ∉ wr := fun h => hCf ((W₀ A hh).sub _ h)
  intro k
  induction k with
  | zero =>
    intro i s₀ s m hk hi hst hn hsince hkp
    obtain rfl : i = n₀ := by omega
    show Seg _ A _ _ _ s₀ _ ((compTurn (.GeneratorExp elt [⟨.Name x px, iter, [], 0⟩] scope pos) 0 (.ref I) .none cenv).onRaise (leaving cenv)) [] s
    rw [compTurn_gen, Sem.onRaise_eq_wrap]
    refine seg_bind_wrap (wpAny_standAt ?_)
    refine seg_bind_wrap ((W₀ _ hh').done s _ _ hst fun h' tk hk' => ?_)
    exact seg_end (.ok .next) ⟨rfl, Nat.sub_self _, hsince.step fun b o _ hw e => hk' b o hw e⟩
  | succ k ih =>
    intro i s₀ s m hk hi hst hn hsince hkp
    have hlt : i < n₀ := by omega
    show Seg _ A _ _ _ s₀ _ ((compTurn (.GeneratorExp elt [⟨.Name x px, iter, [], 0⟩] scope pos) 0 (.ref I) .none cenv).onRaise (leaving cenv)) [] s
    rw [compTurn_gen, Sem.onRaise_eq_wrap]
    refine seg_bind_wrap (wpAny_standAt ?_)
    refine seg_bind_wrap ((W₀ _ hh').item i s _ _ hlt hst fun v h₁ tk₁ hPv hst₁ hk₁ => ?_)
    refine seg_bind_wrap (wpAny_of_eq (rfl : letOwnedTupleGo (.Name x px) (.ref I) v = pure ()) ?_)
    refine seg_bind_wrap (wpAny_assign_Name (wpAny_storeName_local hx (hn.at' fun o e => hk₁ _ o hCw e) (fun h₂ hn₂ hs₂ => ?_) hp))
    have up₂ : ∀ b o, b ≠ cenv.locals → b ∉ wr → s.heap.get? b = some o → h₂.get? b = some o := fun b o hbC hbw e => hs₂.extBut b o hbC (hk₁ b o hbw e)
    have hst₂ : St₀ (i + 1) h₂ := (W₀ A hh).frame _ _ _ hst₁ fun b hb o e => hs₂.extBut b o (fun h => hCf (h ▸ hb)) e
    have hkp₂ : ∀ b ∈ fp, b ∉ wr → ∀ o, href.get? b = some o → h₂.get? b = some o := fun b hb hbw o e => up₂ b o (fun h => hCf (h ▸ hb)) hbw (hkp b hb hbw o e)
    refine seg_bind_wrap (wpAny_of_eq (a := true) rfl ?_)
    simp only [if_true]
    have hy : ∀ v, yieldOut cenv v = yieldValue v := fun v => by simp only [yieldOut, hco, Bool.false_eq_true, if_false]
    simp only [hy]
    rw [Sem.bind_eq_wrap', Sem.bind_eq_wrap', Sem.wrap_wrap, Sem.wrap_wrap]
    refine seg_wrap (wpAny_mono (hq _ _ i v _ _ hh' hPv hn₂ (by simp) hkp₂) (fun y s₄ h₄ => ?_) fun _ _ e => e)
    obtain ⟨hFy, h₄, tk₄, rfl, hk₄⟩ := h₄
    rw [show n₀ - i = (n₀ - (i + 1)) + 1 by omega]
    refine seg_at (seg_yield rfl rfl rfl ⟨?_, (hsince.step fun b o hbC hbw e => hk₄ b o (up₂ b o hbC hbw e) : GenSince cenv.locals wr s₀ { s with heap := h₄, toks := tk₄ }), fun s'' hal => ?_⟩)
    · rw [show n₀ - 1 - (n₀ - (i + 1)) = i by omega]; exact hFy
    refine seg_again rfl (ih (i + 1) s'' s'' _ (by omega) hlt ((W₀ A hh).frame _ _ _ hst₂ fun b hb o e => hal b (List.mem_cons_of_mem _ hb) o (hk₄ b o e))
      ((hn₂.keeps hk₄).at' fun o e => hal _ (List.mem_cons_self ..) o e) (GenSince.refl _ _ _) fun b hb hbw o e => hal b (List.mem_cons_of_mem _ hb) o (hk₄ b o (hkp₂ b hb hbw o e)))

theorem seg_startH {elt iter : Expr} {x : Str} {px : Pos} {scope : Scope} {pos : Pos} {I : Addr} {fp wr : List Addr} {n₀ : Nat} {P : Nat → Value → Prop} {St₀ : Nat → Heap → Prop} {cenv : Env}
    (hh : A.handled = none) (W₀ : ∀ A' : Around, A'.handled = none → Walks prog w A' I fp wr n₀ P St₀) (F : HF) (href : Heap)
    (hx : cenv.kindOf x = some .local) (hp : (cenv.scope.kind == .class || (cenv.scope.kind == .module && cenv.locals != cenv.globals)) = false)
    (hco : cenv.scope.isCoroutine = false) (hCf : cenv.locals ∉ fp) (hq : QuietH prog w cenv x elt fp wr P F href)
    (s₀ s : Shared) (m : Str → Option Value) (hst : St₀ 0 s.heap) (hn : s.heap.Ns cenv.locals m) (hsince : GenSince cenv.locals wr s₀ s)
    (hkp : ∀ b ∈ fp, b ∉ wr → ∀ o, href.get? b = some o → s.heap.get? b = some o) :
    Seg (model prog w) A (fun n s₀ r s₁ => r = .ok .next ∧ (n = 0 ∧ GenSince cenv.locals wr s₀ s₁)) (protoH cenv.locals fp wr n₀ F) n₀ s₀
      (.compStart (.GeneratorExp elt [⟨.Name x px, iter, [], 0⟩] scope pos) 0 (.ref I) .none cenv)
      ((model prog w).den (.compStart (.GeneratorExp elt [⟨.Name x px, iter, [], 0⟩] scope pos) 0 (.ref I) .none cenv)) [] s := by
  have hh' : (A.over (.compStart (.GeneratorExp elt [⟨.Name x px, iter, [], 0⟩] scope pos) 0 (.ref I) .none cenv) []).handled = none := hh
  have loop := seg_loopH (iter := iter) (px := px) (scope := scope) (pos := pos) hh W₀ F href hx hp hco hCf hq n₀ 0 s₀ s m (Nat.sub_zero _) (Nat.zero_le _) hst hn hsince hkp
  rw [Nat.sub_zero] at loop
  show Seg _ A _ _ _ s₀ _ ((compStart (.GeneratorExp elt [⟨.Name x px, iter, [], 0⟩] scope pos) 0 (.ref I) .none cenv).onRaise (leaving cenv)) [] s
  unfold compStart
  rw [Sem.onRaise_eq_wrap]
  show Seg _ A _ _ _ s₀ _ ((ask >>= _).wrap _ _ _ _) [] s
  refine seg_bind_wrap (wpAny_askSetting ?_)
  split
  · exact seg_again rfl loop
  · refine seg_bind_wrap (wpAny_rule ?_)
    show Seg _ A _ _ _ s₀ _ ((standAt iter.pos >>= _).wrap _ _ _ _) [] s
    exact seg_bind_wrap (wpAny_standAt (seg_bind_wrap ((W₀ _ hh').self 0 s _ _ hst (seg_again rfl loop))))

/-- a generator before its j-th item -/
def GenAtH (prog : Program) (w : World) (A : Around) (a : Addr) (g : Nat) (C : Addr) (fp wr : List Addr) (n₀ : Nat) (F : HF) (j : Nat) (s : Shared) : Prop :=
  s.heap.IsGen a g ∧ s.heap.NoLimit ∧ ∃ gs, s.gens[g]? = some gs ∧ ∀ s'' : Shared, (∀ b ∈ C :: fp, ∀ o, s.heap.get? b = some o → s''.heap.get? b = some o) →
    gs.Goes (model prog w) A.in1 (fun n s₀ r s₁ => r = .ok .next ∧ (n = 0 ∧ GenSince C wr s₀ s₁)) (protoH C fp wr n₀ F) (n₀ - j) (.send .none) s''

theorem GenAtH.fresh {elt iter : Expr} {x : Str} {px : Pos} {scope : Scope} {pos : Pos} {I a : Addr} {g : Nat} {fp wr : List Addr} {n₀ : Nat} {P : Nat → Value → Prop} {St₀ : Nat → Heap → Prop} {cenv : Env}
    (hh : A.handled = none) (W₀ : ∀ A' : Around, A'.handled = none → Walks prog w A' I fp wr n₀ P St₀) (F : HF)
    (hx : cenv.kindOf x = some .local) (hp : (cenv.scope.kind == .class || (cenv.scope.kind == .module && cenv.locals != cenv.globals)) = false)
    (hco : cenv.scope.isCoroutine = false) (hCf : cenv.locals ∉ fp) {s : Shared} {m : Str → Option Value} (hq : QuietH prog w cenv x elt fp wr P F s.heap)
    (hg : s.heap.IsGen a g) (hgs : s.gens[g]? = some (.fresh (.compStart (.GeneratorExp elt [⟨.Name x px, iter, [], 0⟩] scope pos) 0 (.ref I) .none cenv)))
    (hst : St₀ 0 s.heap) (hn : s.heap.Ns cenv.locals m) (hl : s.heap.NoLimit) : GenAtH prog w A a g cenv.locals fp wr n₀ F 0 s :=
  ⟨hg, hl, _, hgs, fun s'' hal => ⟨rfl, seg_startH (A := A.in1) hh W₀ F s.heap hx hp hco hCf hq s'' s'' m ((W₀ A hh).frame _ _ _ hst fun b hb o e => hal b (List.mem_cons_of_mem _ hb) o e)
    (hn.at' fun o e => hal _ (List.mem_cons_self ..) o e) (GenSince.refl _ _ _) fun b hb _ o e => hal b (List.mem_cons_of_mem _ hb) o e⟩⟩
end
end Mine

namespace Mine

/-- the state has moved in its heap, its tokens and its generators alone -/
def Mv (s s' : Shared) : Prop := ∃ h tk gs, s' = { s with heap := h, toks := tk, gens := gs }
theorem Mv.refl (s : Shared) : Mv s s := ⟨_, _, _, rfl⟩
theorem Mv.trans {s s' s'' : Shared} (x : Mv s s') (y : Mv s' s'') : Mv s s'' := by
  obtain ⟨_, _, _, rfl⟩ := x
  obtain ⟨_, _, _, rfl⟩ := y
  exact ⟨_, _, _, rfl⟩

theorem bare_setGen {s : Shared} {g : Nat} {x : GenState} (h : AllBare s.gens) (hx : x.bare = true) : AllBare (s.setGen g x).gens := fun y hy => by
  have hy' : y ∈ s.gens.setIfInBounds g x := hy
  rcases Array.mem_or_eq_of_mem_setIfInBounds hy' with q | q
  · exact h y q
  · rw [q]; exact hx

section
variable {prog : Program} {w : World} {A : Around} {E : Value → Shared → Prop} {s : Shared} {a : Addr} {g : Nat} {C : Addr} {fp wr : List Addr} {n₀ : Nat} {F : HF} {j : Nat}

theorem GenAtH.frame {h' : Heap} {tk : Nat} (st : GenAtH prog w A a g C fp wr n₀ F j s) (hcs : cStatics ∈ fp) (hk : ∀ b ∈ a :: C :: fp, ∀ o, s.heap.get? b = some o → h'.get? b = some o) : GenAtH prog w A a g C fp wr n₀ F j { s with heap := h', toks := tk } :=
  ⟨let ⟨o, nm, qn, ho, r⟩ := st.1; ⟨o, nm, qn, hk a (List.mem_cons_self ..) o ho, r⟩,
   (let ⟨mc, hns, hnn⟩ := st.2.1; ⟨mc, hns.at' fun o e => hk cStatics (List.mem_cons_of_mem _ (List.mem_cons_of_mem _ hcs)) o e, hnn⟩),
   let ⟨gs, hgs, hgo⟩ := st.2.2; ⟨gs, hgs, fun s'' hal => hgo s'' fun b hb o e => hal b hb o (hk b (List.mem_cons_of_mem _ hb) o e)⟩⟩

theorem nextH_item {Q : Option Value → Shared → Prop} (hh : A.handled = none) (haC : a ≠ C) (haw : a ∉ wr) (hroom : A.depth < recursionLimit) (hcC : cStatics ≠ C) (hcw : cStatics ∉ wr) (hj : j < n₀) (st : GenAtH prog w A a g C fp wr n₀ F j s) (hb : AllBare s.gens)
    (hQ : ∀ v s', Mv s s' → AllBare s'.gens → F j v s'.heap → GenAtH prog w A a g C fp wr n₀ F (j + 1) s' → (∀ b o, b ≠ C → b ∉ wr → s.heap.get? b = some o → s'.heap.get? b = some o) → Q (some v) s') :
    wpAny (model prog w) A (pyNext (.ref a)) Q E s := by
  obtain ⟨hg, hl, gs, hgs, hgo⟩ := st
  obtain ⟨m, hm⟩ : ∃ m, n₀ - j = m + 1 := ⟨n₀ - j - 1, by omega⟩
  rw [hm] at hgo
  refine wpAny_pyNext_genexpQ (P := fun n s₀ s₁ => n = 0 ∧ GenSince C wr s₀ s₁) hh hl hroom hg hgs (hgo _ fun _ _ _ e => e) (fun v s₁ gs' hgb hv => ?_) (fun s₁ hp h' hk => ?_)
  · obtain ⟨hF, ⟨h₁, tk₁, rfl, hk₁⟩, hkap⟩ := hv
    have hidx : n₀ - 1 - (m + 1 - 1) = j := by omega
    rw [hidx] at hF
    refine hQ v _ ⟨h₁, tk₁, _, rfl⟩ (bare_setGen (bare_setGen hb rfl) hgb) hF ⟨let ⟨o, nm, qn, ho, r⟩ := hg; ⟨o, nm, qn, hk₁ a o haC haw ho, r⟩, (let ⟨mc, hns, hnn⟩ := hl; ⟨mc, hns.at' fun o e => hk₁ cStatics o hcC hcw e, hnn⟩), gs', setGen_self (gs := .running) (setGen_self hgs), fun s'' hal => ?_⟩
      fun b o hbC hbw e => hk₁ b o hbC hbw e
    have e : n₀ - (j + 1) = m := by omega
    rw [e]
    exact hkap s'' hal
  · exact absurd hp.1 (Nat.succ_ne_zero m)

theorem nextH_done {Q : Option Value → Shared → Prop} (hh : A.handled = none) (hroom : A.depth < recursionLimit) (st : GenAtH prog w A a g C fp wr n₀ F n₀ s) (hb : AllBare s.gens)
    (hQ : ∀ s', Mv s s' → AllBare s'.gens → (∀ b o, b ≠ C → b ∉ wr → s.heap.get? b = some o → s'.heap.get? b = some o) → Q none s') :
    wpAny (model prog w) A (pyNext (.ref a)) Q E s := by
  obtain ⟨hg, hl, gs, hgs, hgo⟩ := st
  rw [Nat.sub_self] at hgo
  refine wpAny_pyNext_genexpQ (P := fun n s₀ s₁ => n = 0 ∧ GenSince C wr s₀ s₁) hh hl hroom hg hgs (hgo _ fun _ _ _ e => e) (fun v s₁ gs' hgb hv => ?_) (fun s₁ hp h' hk => ?_)
  · obtain ⟨_, _, hkap⟩ := hv
    exact False.elim (hkap s₁ fun _ _ _ e => e)
  · obtain ⟨_, h₁, tk₁, rfl, hk₁⟩ := hp
    exact hQ _ ⟨h', tk₁, _, rfl⟩ (bare_setGen (bare_setGen hb rfl) rfl) fun b o hbC hbw e => hk b o (hk₁ b o hbC hbw e)

/-- the items so far -/
def ItemsH (F : HF) (acc : Array Value) (i : Nat) (h : Heap) : Prop := acc.size = i ∧ ∀ j v, acc[j]? = some v → F j v h

theorem extendH {R : Result → Shared → Prop} {S : Addr} {res : Value} (hh : A.handled = none) (haC : a ≠ C) (haw : a ∉ wr) (hroom : A.depth < recursionLimit) (hcC : cStatics ≠ C) (hcw : cStatics ∉ wr) (hcs : cStatics ∈ fp)
    (hSC : S ≠ C) (hSw : S ∉ wr) (hSa : S ≠ a) (hSf : S ∉ fp) (hn : n₀ ≤ 1000)
    (hF : ∀ i v h h' acc c, h.get? S = some (listOf acc c) → F i v h → (∀ b o, b ≠ S → b ≠ C → b ∉ wr → h.get? b = some o → h'.get? b = some o) → F i v h') :
    ∀ (k j : Nat) (s : Shared) (acc : Array Value) (c : Nat), n₀ - j = k → j ≤ n₀ → GenAtH prog w A.in1 a g C fp wr n₀ F j s → AllBare s.gens → s.heap.get? S = some (listOf acc c) → ItemsH F acc j s.heap →
    (∀ s' acc' c', Mv s s' → AllBare s'.gens → (∀ b o, b ≠ S → b ≠ C → b ∉ wr → s.heap.get? b = some o → s'.heap.get? b = some o) → s'.heap.get? S = some (listOf acc' c') → ItemsH F acc' n₀ s'.heap → R (.ok (.ret res)) s') →
    codeAny (model prog w) A (.builtin "list.extend.loop" ⟨[.ref S, .ref a, res], []⟩) R s := by
  intro k
  induction k with
  | zero =>
    intro j s acc c hk hj hst hb hS hacc hR
    obtain rfl : j = n₀ := by omega
    refine codeAny_builtin PySem.F.entry_extend_loop ?_
    rw [Around.under_plainId PySem.F.plain_extend_loop _]
    show wpAny _ A.in1 (pyNext (.ref a) >>= _) _ _ s
    refine wpAny_bind (nextH_done (A := A.in1) hh hroom hst hb fun s' hm hb' hk' => ?_)
    refine wpAny_pure (hR s' acc c hm hb' (fun b o _ q1 q2 e => hk' b o q1 q2 e) (hk' S _ hSC hSw hS) ⟨hacc.1, fun i v hv => hF i v _ _ _ _ hS (hacc.2 i v hv) fun b o _ q1 q2 e => hk' b o q1 q2 e⟩)
  | succ k ih =>
    intro j s acc c hk hj hst hb hS hacc hR
    have hlt : j < n₀ := by omega
    refine codeAny_builtin PySem.F.entry_extend_loop ?_
    rw [Around.under_plainId PySem.F.plain_extend_loop _]
    show wpAny _ A.in1 (pyNext (.ref a) >>= _) _ _ s
    refine wpAny_bind (nextH_item (A := A.in1) hh haC haw hroom hcC hcw hlt hst hb fun v s' hm hb' hFv hst' hk' => ?_)
    have hS' := hk' S _ hSC hSw hS
    show wpAny _ A.in1 (updateSeq S (·.push v) >>= _) _ _ _
    refine wpAny_bind ?_
    have hsz := hacc.1
    have hoth : ∀ b o, b ≠ S → s'.heap.get? b = some o → (s'.heap.update S (Obj.mapSeq (·.push v))).get? b = some o := fun b o q e => (Heap.get?_update_other _ _ (Ne.symm q)).trans e
    refine wpAny_updateSeq hS' rfl (wpAny_pure ⟨plainId_quiet PySem.F.plain_extend_loop _, ih (j + 1) _ (acc.push v) _ (by omega) hlt (hst'.frame hcs fun b hbm o e => hoth b o (fun q => ?_) e) hb' (Heap.get?_update_self _ hS' rfl) ⟨by rw [Array.size_push, hsz], fun i u hu => ?_⟩ fun s'' acc' c' hm'' hb'' hk'' hS'' hacc' => ?_⟩)
      (by rw [hsz, PySem.sizeLine_eq]; omega) (by show (acc.push v).size ≤ sizeLine + 1; rw [Array.size_push, hsz, PySem.sizeLine_eq]; omega)
    · subst q
      rcases List.mem_cons.mp hbm with q | q
      · exact hSa q
      · rcases List.mem_cons.mp q with q | q
        · exact hSC q
        · exact hSf q
    · have hFu : F i u s'.heap := by
        rw [Array.getElem?_push] at hu
        split at hu
        · rename_i q; cases hu; rw [q, hsz]; exact hFv
        · exact hF i u _ _ _ _ hS (hacc.2 i u hu) fun b o _ q1 q2 e => hk' b o q1 q2 e
      exact hF i u _ _ _ _ hS' hFu fun b o q _ _ e => hoth b o q e
    · obtain ⟨_, _, _, rfl⟩ := hm
      exact hR s'' acc' c' (Mv.trans ⟨_, _, _, rfl⟩ hm'') hb'' (fun b o q1 q2 q3 e => hk'' b o q1 q2 q3 (hoth b o q1 (hk' b o q2 q3 e))) hS'' hacc'

theorem collectH {Q : List Value → Shared → Prop} (hh : A.handled = none) (haC : a ≠ C) (haw : a ∉ wr) (hroom : A.depth < recursionLimit) (hcC : cStatics ≠ C) (hcw : cStatics ∉ wr) (hcs : cStatics ∈ fp)
    (hfp : ∀ b ∈ a :: C :: fp, b < s.heap.objs.size) (hwr : ∀ b ∈ wr, b ∈ fp) (hn : n₀ ≤ 1000)
    (hF : ∀ S, s.heap.objs.size = S → ∀ i v h h' acc c, h.get? S = some (listOf acc c) → F i v h → (∀ b o, b ≠ S → b ≠ C → b ∉ wr → h.get? b = some o → h'.get? b = some o) → F i v h')
    (hst : GenAtH prog w A.in1 a g C fp wr n₀ F 0 s) (hb : AllBare s.gens)
    (hQ : ∀ s' acc, Mv s s' → AllBare s'.gens → (∀ b o, b ≠ C → b ∉ wr → s.heap.get? b = some o → s'.heap.get? b = some o) → s.heap.objs.size ≤ s'.heap.objs.size → ItemsH F acc n₀ s'.heap → Q acc.toList s') :
    wpAny (model prog w) A (collect (.ref a)) Q E s := by
  have hSf : ∀ b ∈ a :: C :: fp, b ≠ s.heap.objs.size := fun b hb e => Nat.lt_irrefl _ (e ▸ hfp b hb)
  have hSa : s.heap.objs.size ≠ a := Ne.symm (hSf a (by simp))
  have hSC : s.heap.objs.size ≠ C := Ne.symm (hSf C (by simp))
  have hSfp : s.heap.objs.size ∉ fp := fun q => hSf _ (List.mem_cons_of_mem _ (List.mem_cons_of_mem _ q)) rfl
  unfold collect
  refine wpAny_bind (wpAny_runValue (codeAny_builtin PySem.F.entry_proto_collect ?_))
  rw [Around.under_plainId PySem.F.plain_proto_collect _]
  show wpAny _ A.in1 (newList [] >>= fun l => again (.builtin "list.__iadd__" ⟨[l, .ref a], []⟩)) _ _ s
  refine wpAny_bind (wpAny_newObj_type ?_)
  refine wpAny_pure ⟨plainId_quiet PySem.F.plain_list_iadd _, codeAny_builtin PySem.F.entry_list_iadd ?_⟩
  rw [Around.under_plainId PySem.F.plain_list_iadd _]
  have hst₁ := hst.frame (h' := s.heap.push (lstO [])) (tk := s.toks) hcs fun b _ o e => Heap.get?_push_of_some _ e
  have hTg : Shared.TypeIs { s with heap := s.heap.push (lstO []) } (.ref a) "generator" := hst₁.1.typeIs
  show wpAny _ A.in1 (Builtin.List.listExtendWith (.ref s.heap.objs.size) (.ref a) (.ref s.heap.objs.size)) _ _ { s with heap := s.heap.push (lstO []) }
  unfold Builtin.List.listExtendWith
  refine wpAny_bind (wpAny_typeOf hTg ?_)
  have h1 : Builtin.List.listSameRef (.ref s.heap.objs.size) (.ref a) = false := by simp [Builtin.List.listSameRef, hSa]
  have h2 : (Value.type "generator" == Value.type "list") = false := by decide
  have h3 : (Value.type "generator" == Value.type "tuple") = false := by decide
  simp only [h1, h2, h3, Bool.or_false, Bool.false_eq_true, if_false]
  refine wpAny_bind (wpAny_pyIter_gen hst₁.1 ?_)
  refine wpAny_bind (wpAny_holding ?_)
  unfold Builtin.List.listLengthHint
  refine wpAny_bind (wpAny_specialOf hTg PySem.F.gen_no_len ?_)
  show wpAny _ A.in1 (specialOf (Value.ref a) (Str.ofString "__length_hint__") >>= _) _ _ _
  refine wpAny_bind (wpAny_specialOf hTg PySem.F.gen_no_hint ?_)
  refine wpAny_pure ?_
  show wpAny _ A.in1 (rule "list.extend.makes-room" >>= fun _ => Builtin.List.listTouch (.ref s.heap.objs.size) >>= fun _ =>
    again (.builtin "list.extend.loop" ⟨[.ref s.heap.objs.size, .ref a, .ref s.heap.objs.size], []⟩)) _ _ _
  refine wpAny_bind (wpAny_rule ?_)
  have hS₁ : (s.heap.push (lstO [])).get? s.heap.objs.size = some (lstO []) := Heap.get?_push_size _ rfl
  refine wpAny_bind ?_
  show wpAny _ A.in1 (updateSeq s.heap.objs.size (·.push .none) >>= fun _ => updateSeq s.heap.objs.size (·.pop)) _ _ _
  refine wpAny_bind (wpAny_updateSeq hS₁ rfl ?_)
  have hS₂ := Heap.get?_update_self (Obj.mapSeq (·.push Value.none)) hS₁ rfl
  refine wpAny_updateSeq hS₂ rfl ?_
  have hS₃ := Heap.get?_update_self (Obj.mapSeq (·.pop)) hS₂ rfl
  have oth : ∀ b o, b ≠ s.heap.objs.size → (s.heap.push (lstO [])).get? b = some o → (((s.heap.push (lstO [])).update s.heap.objs.size (Obj.mapSeq (·.push Value.none))).update s.heap.objs.size (Obj.mapSeq (·.pop))).get? b = some o :=
    fun b o hb e => (Heap.get?_update_other _ _ (Ne.symm hb)).trans ((Heap.get?_update_other _ _ (Ne.symm hb)).trans e)
  refine wpAny_pure ⟨plainId_quiet PySem.F.plain_extend_loop _, extendH (n₀ := n₀) (F := F) hh haC haw hroom hcC hcw hcs hSC (fun q => hSfp (hwr _ q)) hSa hSfp hn (hF _ rfl) n₀ 0 _ _ _ rfl (Nat.zero_le _)
    (hst₁.frame (tk := s.toks) hcs fun b hbm o e => oth b o (hSf b hbm) e) hb hS₃ ⟨rfl, fun j v hv => by simp at hv⟩ fun s' acc' c' hm hb' hk hS' hacc => ?_⟩
  show wpAny _ A (load s.heap.objs.size >>= _) _ _ s'
  refine wpAny_bind (wpAny_load hS' ?_)
  obtain ⟨h', tk', gs', rfl⟩ := hm
  refine wpAny_pure (hQ _ acc' ⟨h', tk', gs', rfl⟩ hb' (fun b o q1 q2 e => ?_) (Nat.le_of_lt (Heap.lt_size hS')) hacc)
  have hlt : b ≠ s.heap.objs.size := fun q => Nat.lt_irrefl _ (q ▸ Heap.lt_size e)
  exact hk b o hlt q1 q2 (oth b o hlt (Heap.get?_push_of_some _ e))
end
end Mine

namespace Mine

section
variable {prog : Program} {w : World} {A : Around} {E : Value → Shared → Prop} {s : Shared} {b : Heap} {L : Addr} {m : Str → Option Value} {ld : Ld}

theorem eq_self {v : Value} {Q : Bool → Shared → Prop} (hv : (v == v) = true) (h : Q true s) : wpAny (model prog w) A (eqBool v v) Q E s := by
  unfold eqBool
  refine wpAny_holding ?_
  rw [if_pos hv]
  exact wpAny_bind (wpAny_rule (wpAny_pure h))

/-- pairs whose first parts are ints, all apart -/
structure Tups (ld : Ld) (vs : List Value) (ks : List Int) (us : List Value) : Prop where
  len : vs.length = ks.length
  lenu : us.length = ks.length
  at' : ∀ (i : Nat) v k u, vs[i]? = some v → ks[i]? = some k → us[i]? = some u → ∃ T t, v = .ref T ∧ ld T = some (tupO [.int k t, u])
  nodup : ks.Nodup
  same : ∀ u ∈ us, (u == u) = true

theorem Tups.lt {vs us : List Value} {ks : List Int} {Q : Bool → Shared → Prop} (t : Tups ld vs ks us) (led : Led ld s.heap) {i j : Nat} (hi : i < vs.length) (hj : j < vs.length) (h : ∀ c, Q c s) :
    wpAny (model prog w) A (keyLt' (tuples' true) (vs.getD i .none) (vs.getD j .none)) Q E s := by
  have hki : i < ks.length := t.len ▸ hi
  have hkj : j < ks.length := t.len ▸ hj
  have hui : i < us.length := t.lenu ▸ hki
  have huj : j < us.length := t.lenu ▸ hkj
  obtain ⟨T, tt, e1, e2⟩ := t.at' i vs[i] ks[i] us[i] (by simp) (by simp) (by simp)
  obtain ⟨T', tt', e1', e2'⟩ := t.at' j vs[j] ks[j] us[j] (by simp) (by simp) (by simp)
  rw [show vs.getD i .none = .ref T by simp [hi, e1], show vs.getD j .none = .ref T' by simp [hj, e1']]
  refine kat_lt (led _ _ e2) rfl (led _ _ e2') rfl ?_
  show KatLex prog w A true _ Q [(.int ks[i] tt, .int ks[j] tt'), (us[i], us[j])] 0 s
  refine kat_cons (wpAny_eqBool_int ?_)
  by_cases hij : i = j
  · subst hij
    rw [beq_self_eq_true]
    refine kat_yes (kat_cons (eq_self (t.same _ (List.getElem_mem hui)) ?_))
    exact kat_yes (kat_nil (h _))
  · have hne : ks[i] ≠ ks[j] := fun e => by
      have hp := List.pairwise_iff_getElem.mp t.nodup
      rcases Nat.lt_or_gt_of_ne hij with q | q
      · exact hp i j hki hkj q e
      · exact hp j i hkj hki q e.symm
    rw [show (ks[i] == ks[j]) = false by simpa using hne]
    exact kat_no (oneLt_int (h _))

theorem Tups.kat {vs us : List Value} {ks : List Int} (t : Tups ld vs ks us) (led : Led ld s.heap) : ∃ fs, KatTups s.heap vs fs ∧ fs.length = vs.length ∧ ∀ f ∈ fs, ∃ k t, f = .int k t := by
  have : ∀ (vs us : List Value) (ks : List Int), vs.length = ks.length → us.length = ks.length → (∀ (i : Nat) v k u, vs[i]? = some v → ks[i]? = some k → us[i]? = some u → ∃ T t, v = .ref T ∧ ld T = some (tupO [.int k t, u])) →
      ∃ fs, KatTups s.heap vs fs ∧ fs.length = vs.length ∧ ∀ f ∈ fs, ∃ k t, f = .int k t := fun vs => by
    induction vs with
    | nil => intro us ks _ _ _; exact ⟨[], .nil, rfl, fun _ h => nomatch h⟩
    | cons v vs ih =>
      intro us ks h1 h2 h3
      match ks, us, h1, h2 with
      | k :: ks, u :: us, h1, h2 =>
        obtain ⟨T, t, rfl, e⟩ := h3 0 v k u rfl rfl rfl
        obtain ⟨fs, f1, f2, f3⟩ := ih us ks (by simpa using h1) (by simpa using h2) fun i v k u a b c => h3 (i + 1) v k u a b c
        refine ⟨.int k t :: fs, .cons (led _ _ e) rfl rfl rfl f1, by simp [f2], fun f hf => ?_⟩
        rcases List.mem_cons.mp hf with rfl | hf
        · exact ⟨k, t, rfl⟩
        · exact f3 f hf
  exact this vs us ks t.len t.lenu t.at'

/-- what list.sort does to a list of such pairs -/
theorem sort_tups {a : Addr} {vs us : List Value} {ks : List Int} {n : Nat} {P : PySem.Fin → Shared → Prop} (z : Z b L m ld s.heap) (ha : ld a = some (listOf vs.toArray n)) (hn : New b a) (t : Tups ld vs ks us) (h64 : vs.length < 64)
    (h : ∀ (h' : Heap) (vs' : List Value) (c : Nat), Z b L m (upd ld a (listOf vs'.toArray c)) h' → vs'.Perm vs → P (.done (.ret .none)) { s with heap := h' }) : wpAny (model prog w) A (Builtin.«list.sort» ⟨[.ref a], []⟩) P E s := by
  have hto : ∀ (i : Nat) T, vs[i]? = some (.ref T) → T ≠ a := fun i T hi e => by
    have hlt := (List.getElem?_eq_some_iff.mp hi).1
    have hk : i < ks.length := t.len ▸ hlt
    have hu : i < us.length := t.lenu ▸ hk
    obtain ⟨T', tt, e1, e2⟩ := t.at' i _ ks[i] us[i] hi (by simp) (by simp)
    cases e1
    rw [e, ha] at e2
    exact absurd (congrArg Obj.cls (Option.some.inj e2)) (by simp)
  by_cases h2 : 2 ≤ vs.length
  · refine kat_list_sort (n := n) (news := newsX b ld s.heap.objs.size a) z.F (z.newsX a) (z.led _ _ ha) (z.neL ha) hn.none newsX_ne h2 h64 fun e1 h' F' N' => ?_
    have z' := z.ofX (dx := a) F' N'
    have t' : Tups (upd ld a (listOf #[] e1)) vs ks us := ⟨t.len, t.lenu, fun i v k u q1 q2 q3 => by
      obtain ⟨T, tt, rfl, e⟩ := t.at' i v k u q1 q2 q3
      exact ⟨T, tt, rfl, (upd_ne (hto i T q1)).trans e⟩, t.nodup, t.same⟩
    obtain ⟨fs, f1, f2, f3⟩ := t'.kat (s := { s with heap := h' }) z'.led
    refine kat_kind (T := .type "int") f1 (by omega) (fun f hf => by obtain ⟨k, tk, rfl⟩ := f3 f hf; exact Looks.of_pure rfl) (by decide) ?_
    show (kas_sort vs.length).kasWp (kas_ask prog w A (tuples' true) vs) _ _
    refine KAll.wp (n := vs.length) (G := OkP vs.length) (Inv := fun s' => s' = { s with heap := h' }) ?_ ?_ _ _ (all_sort (by omega)) rfl
    · rintro i j C s' hi hj rfl hC
      exact t'.lt z'.led hi hj fun c => hC c _ rfl
    · rintro p s' hp rfl
      refine KasFin.intro (g := fun o => (a, o) :: newsX b ld s.heap.objs.size a) F' N' (.head newsX_ne) fun h'' c F'' N'' => ?_
      exact h h'' _ c (z.ofX (dx := a) F'' N'') (pick_all hp)
  · have hlt : vs.toArray.size < 2 := by rw [List.size_toArray]; omega
    have ho := z.led _ _ ha
    have s1 := Heap.SameBut.update s.heap a (Obj.mapSeq fun _ => (#[] : Array Value))
    obtain ⟨e1, ho1⟩ : ∃ e1, (s.heap.update a (Obj.mapSeq fun _ => (#[] : Array Value))).get? a = some (listOf #[] e1) := ⟨_, get?_update_seq ho fun _ => #[]⟩
    have z1 := z.sameBut ha hn.none s1 ho1
    rw [list_sort_plain]
    refine wpAny_bind (listItems_at ho rfl ?_)
    refine wpAny_bind (listUpdate_at ho rfl ?_ (by rw [List.size_toArray, sizeLine_eq]; omega) (Nat.zero_le _))
    refine wpAny_bind (seqEpoch_at ho1 rfl ?_)
    refine wpAny_bind (wpAny_newTuple ?_ (by show vs.length ≤ _; rw [sizeLine_eq]; omega))
    refine wpAny_bind (wpAny_newList ?_ (Nat.zero_le _))
    refine wpAny_holding ?_
    have z2 := (z1.push (tupO vs)).push (lstO [])
    show wpAny (model prog w) A _ P E { s with heap := ((s.heap.update a (Obj.mapSeq fun _ => (#[] : Array Value))).push (tupO vs)).push (lstO []) }
    generalize hH : ((s.heap.update a (Obj.mapSeq fun _ => (#[] : Array Value))).push (tupO vs)).push (lstO []) = H at z2 ⊢
    dsimp only
    rw [if_pos hlt, if_pos hlt]
    refine wpAny_bind (wpAny_pure ?_)
    refine wpAny_bind (wpAny_pure ?_)
    have hHa : H.get? a = some (listOf #[] e1) := by
      rw [← hH]; exact Heap.get?_push_of_some _ (Heap.get?_push_of_some _ ho1)
    have hout : (arrOf (SortSt.mk' general' (vs.toArray.zip vs.toArray) #[] 7 none)).map (·.2) = vs.toArray := by
      show (vs.toArray.zip vs.toArray).map (·.2) = vs.toArray
      apply Array.toList_inj.mp
      rw [Array.toList_map, Array.toList_zip]
      exact List.map_snd_zip (by simp)
    dsimp only
    rw [hout]
    refine wpAny_bind (seqEpoch_at hHa rfl ?_)
    refine wpAny_bind (listUpdate_at hHa rfl ?_ (Nat.zero_le _) (by show vs.toArray.size ≤ _; rw [List.size_toArray, sizeLine_eq]; omega))
    show wpAny _ _ (if (e1 != e1) = true then _ else _) _ _ _
    rw [if_neg (by simp)]
    obtain ⟨c2, hc2⟩ : ∃ c2, (H.update a (Obj.mapSeq fun _ => vs.toArray)).get? a = some (listOf vs.toArray c2) := ⟨_, get?_update_seq hHa fun _ => vs.toArray⟩
    refine wpAny_pure (h _ vs c2 ?_ (.refl _))
    have z3 : Z b L m (upd ld a (listOf #[] e1)) H := z2.mono (fun x o q => ?_) fun x o q => ?_
    · have z4 := z3.sameBut upd_self hn.none (Heap.SameBut.update H a (Obj.mapSeq fun _ => vs.toArray)) hc2
      refine z4.mono (fun x o q => ?_) fun x o q => ?_
      · by_cases hx : x = a
        · subst hx; rw [upd_self] at q ⊢; exact q
        · rw [upd_ne hx] at q ⊢; rw [upd_ne hx]; exact q
      · rw [upd_ne fun e => by rw [e, hn.none] at q; cases q]; exact z.base _ _ q
    · have hx := Heap.lt_size (z1.led _ _ q)
      rw [upd_ne (Nat.ne_of_lt (by rw [Heap.size_push]; exact Nat.lt_succ_of_lt hx)), upd_ne (Nat.ne_of_lt hx)]; exact q
    · rw [upd_ne fun e => by rw [e, hn.none] at q; cases q]; exact z.base _ _ q
end
end Mine

namespace Mine

/-- the i-th item is the pair of the i-th key and its value -/
def itemF (C : Addr) (ord : List Int) (gv : Int → Value) : HF := fun i v h => ∃ T t k, v = .ref T ∧ C < T ∧ ord[i]? = some k ∧ h.get? T = some (tupO [.int k t, gv k])

theorem itemF.stays {C S : Addr} {wr : List Addr} {ord : List Int} {gv : Int → Value} (hwr : ∀ b ∈ wr, b < C) (i : Nat) (v : Value) (h h' : Heap) (acc : Array Value) (c : Nat) (hS : h.get? S = some (listOf acc c)) (hF : itemF C ord gv i v h)
    (hk : ∀ b o, b ≠ S → b ≠ C → b ∉ wr → h.get? b = some o → h'.get? b = some o) : itemF C ord gv i v h' := by
  obtain ⟨T, t, k, rfl, h1, h2, h3⟩ := hF
  refine ⟨T, t, k, rfl, h1, h2, hk T _ (fun e => ?_) (Nat.ne_of_gt h1) (fun q => Nat.lt_asymm h1 (hwr T q)) h3⟩
  rw [e, hS] at h3
  exact absurd (congrArg Obj.cls (Option.some.inj h3)) (by simp)

def keyIn (o : Obj) : Int := match o.data with
  | .seq xs _ => match xs.toList with
    | .int k _ :: _ => k
    | _ => 0
  | _ => 0
def keyAt (ld : Ld) (v : Value) : Int := match v with
  | .ref T => ((ld T).map keyIn).getD 0
  | _ => 0
theorem keyAt_of {ld : Ld} {T : Addr} {k : Int} {t : Tok} {u : Value} (h : ld T = some (tupO [.int k t, u])) : keyAt ld (.ref T) = k := by show ((ld T).map keyIn).getD 0 = k; rw [h]; rfl

section
variable {prog : Program} {w : World} {A : Around} {E : Value → Shared → Prop} {s : Shared} {b : Heap} {L : Addr} {m : Str → Option Value} {ld : Ld} {a : Addr} {g : Nat} {C : Addr} {fp wr : List Addr} {n₀ : Nat} {ord : List Int} {gv : Int → Value}

theorem call_sortedH {Q : Value → Shared → Prop} (hh : A.handled = none) (haC : a ≠ C) (haw : a ∉ wr) (hroom : A.depth < recursionLimit) (hcC : cStatics ≠ C) (hcw : cStatics ∉ wr) (hcs : cStatics ∈ fp)
    (hfp : ∀ x ∈ a :: C :: fp, x < s.heap.objs.size) (hwr : ∀ x ∈ wr, x ∈ fp) (hwC : ∀ x ∈ wr, x < C) (hst : GenAtH prog w A.in1.in1 a g C fp wr ord.length (itemF C ord gv) 0 s) (hb : AllBare s.gens)
    (z : Z b L m ld s.heap) (hld : ∀ x o, ld x = some o → x ≠ C ∧ x ∉ wr) (hLC : L ≠ C) (hLw : L ∉ wr) (h64 : ord.length < 64) (hnd : ord.Nodup) (hgv : ∀ k, (gv k == gv k) = true)
    (h : ∀ s' ld' D vs ks c, Mv s s' → AllBare s'.gens → Z b L m ld' s'.heap → (∀ x o, ld x = some o → ld' x = some o) → ld D = none → New b D → ld' D = some (listOf vs.toArray c) → Tups ld' vs ks (ks.map gv) → ks.Perm ord → Q (.ref D) s') :
    wpAny (model prog w) A (call (.builtin "sorted") [.ref a]) Q E s := by
  refine Calls.call_function_entry kind_sorted plain_sorted entry_sorted (args_sorted1 _) ?_
  unfold Builtin.«sorted»
  refine wpAny_bind (m := checkCount "sorted" 1 1 _) (wpAny_pure ?_)
  refine wpAny_bind (collectH (A := A.in1) hh haC haw hroom hcC hcw hcs hfp hwr (by omega) (fun S _ i v h₁ h₂ acc c hS hF hk => itemF.stays hwC i v h₁ h₂ acc c hS hF hk) hst hb fun s₁ acc hm hb₁ hk₁ hsz₁ hacc => ?_)
  have hlen : acc.toList.length = ord.length := by rw [Array.length_toList]; exact hacc.1
  have z₁ : Z b L m ld s₁.heap := ⟨z.ns.at' fun o e => hk₁ _ o hLC hLw e, fun x o e => hk₁ _ _ (hld x o e).1 (hld x o e).2 (z.led _ _ e), z.fr, z.base, z.above⟩
  -- the ledger with all pairs
  have hT : ∀ (i : Nat) v, acc.toList[i]? = some v → ∃ T t k, v = .ref T ∧ C < T ∧ ord[i]? = some k ∧ s₁.heap.get? T = some (tupO [.int k t, gv k]) := fun i v hv => hacc.2 i v (by simpa using hv)
  let l₁ : Ld := fun x => if ld x = none ∧ .ref x ∈ acc.toList then s₁.heap.get? x else ld x
  have hl₁ : ∀ x o, ld x = some o → l₁ x = some o := fun x o e => by show (if _ then _ else _) = _; rw [if_neg (fun q => by rw [e] at q; cases q.1)]; exact e
  have hLt : ∀ o, s₁.heap.get? L = some o → ∀ ys, o ≠ tupO ys := fun o e ys q => by
    obtain ⟨oL, hL, es, ep, hdd, _⟩ := LCg.ns_obj z₁.ns
    rw [e] at hL; cases hL
    rw [q] at hdd; cases hdd
  have z₂ : Z b L m l₁ s₁.heap := by
    refine ⟨z₁.ns, fun x o e => ?_, ?_, fun x o e => hl₁ x o (z.base x o e), z.above⟩
    · have e' : (if ld x = none ∧ .ref x ∈ acc.toList then s₁.heap.get? x else ld x) = some o := e
      split at e'
      · exact e'
      · exact z₁.led _ _ e'
    · show (if _ then _ else _) = _
      rw [if_neg, z.fr]
      rintro ⟨_, hm⟩
      obtain ⟨i, hi⟩ := List.getElem?_of_mem hm
      obtain ⟨T, t, k, e, _, _, e3⟩ := hT i _ hi
      cases e
      exact hLt _ e3 _ rfl
  have hl₁T : ∀ (i : Nat) v, acc.toList[i]? = some v → ∃ T t k, v = .ref T ∧ ord[i]? = some k ∧ l₁ T = some (tupO [.int k t, gv k]) := fun i v hv => by
    obtain ⟨T, t, k, rfl, h1, h2, h3⟩ := hT i v hv
    refine ⟨T, t, k, rfl, h2, ?_⟩
    show (if _ then _ else _) = _
    split
    · exact h3
    · rename_i hq
      cases e : ld T with
      | none => exact absurd ⟨e, List.mem_of_getElem? hv⟩ hq
      | some o => have := z₁.led _ _ e; rw [h3] at this; cases this; rfl
  have t₁ : Tups l₁ acc.toList ord (ord.map gv) := ⟨hlen, by simp, fun i v k u q1 q2 q3 => by
    obtain ⟨T, t, k', rfl, h2, h3⟩ := hl₁T i v q1
    rw [q2] at h2; cases h2
    rw [List.getElem?_map, q2] at q3; cases q3
    exact ⟨T, t, rfl, h3⟩, hnd, fun u hu => by obtain ⟨k, _, rfl⟩ := List.mem_map.mp hu; exact hgv k⟩
  refine wpAny_bind (wpAny_newList ?_ (by rw [sizeLine_eq]; omega))
  have z₃ := z₂.push (listOf acc.toList.toArray 0)
  have hD0 : ld s₁.heap.objs.size = none := z₁.size_none
  have hD1 : l₁ s₁.heap.objs.size = none := z₂.size_none
  have hDn : New b s₁.heap.objs.size := z₁.bs.size
  have t₂ : Tups (upd l₁ s₁.heap.objs.size (listOf acc.toList.toArray 0)) acc.toList ord (ord.map gv) := ⟨t₁.len, t₁.lenu, fun i v k u q1 q2 q3 => by
    obtain ⟨T, t, rfl, e⟩ := t₁.at' i v k u q1 q2 q3
    exact ⟨T, t, rfl, upd_old hD1 e⟩, t₁.nodup, t₁.same⟩
  refine wpAny_bind (wpAny_holding (wpAny_call_entry slot_list_sort ⟨_, z₃.led _ _ upd_self, rfl⟩ entry_list_sort ?body (args_list_sort _)))
  refine sort_tups (s := { s₁ with heap := s₁.heap.push (listOf acc.toList.toArray 0) }) z₃ upd_self hDn t₂ (by omega) fun h₄ vs c z₄ hp => ⟨_, rfl, wpAny_pure ⟨_, rfl, ?_⟩⟩
  generalize hD : s₁.heap.objs.size = D at *
  have hold : ∀ x o, l₁ x = some o → upd (upd l₁ D (listOf acc.toList.toArray 0)) D (listOf vs.toArray c) x = some o := fun x o e => by
    have hx : x ≠ D := fun q => by rw [q, hD1] at e; cases e
    rw [upd_ne hx, upd_ne hx]; exact e
  generalize hl' : upd (upd l₁ D (listOf acc.toList.toArray 0)) D (listOf vs.toArray c) = ld' at z₄ hold
  have hkey : ∀ (i : Nat) v, acc.toList[i]? = some v → ∃ T t k, v = .ref T ∧ ord[i]? = some k ∧ ld' T = some (tupO [.int k t, gv k]) := fun i v hv => by
    obtain ⟨T, t, k, rfl, h2, h3⟩ := hl₁T i v hv
    exact ⟨T, t, k, rfl, h2, hold _ _ h3⟩
  have hmap : acc.toList.map (keyAt ld') = ord := by
    refine List.ext_getElem (by simp [hacc.1]) fun i h1 h2 => ?_
    have h1' : i < acc.toList.length := by simpa using h1
    obtain ⟨T, t, k, e1, e2, e3⟩ := hkey i acc.toList[i] (by simp)
    rw [List.getElem_map, e1, keyAt_of e3]
    rw [List.getElem?_eq_getElem h2] at e2
    exact (Option.some.inj e2).symm
  have hperm : (vs.map (keyAt ld')).Perm ord := hmap ▸ hp.map (keyAt ld')
  refine h { s₁ with heap := h₄ } ld' D vs (vs.map (keyAt ld')) c (hm.trans ⟨_, _, _, rfl⟩) hb₁ z₄ (fun x o e => hold x o (hl₁ x o e)) hD0 hDn (by rw [← hl']; exact upd_self) ⟨by simp, by simp, fun i v k u q1 q2 q3 => ?_, hperm.nodup_iff.mpr hnd, fun u hu => by obtain ⟨k, _, rfl⟩ := List.mem_map.mp hu; exact hgv k⟩ hperm
  obtain ⟨i', hi'⟩ := List.getElem?_of_mem (hp.mem_iff.mp (List.mem_of_getElem? q1))
  obtain ⟨T, t, k', rfl, e2, e3⟩ := hkey i' v hi'
  rw [List.getElem?_map, q1, Option.map_some, keyAt_of e3] at q2
  cases q2
  rw [List.getElem?_map, List.getElem?_map, q1, Option.map_some, keyAt_of e3, Option.map_some] at q3
  cases q3
  exact ⟨T, t, rfl, e3⟩
end
end Mine

namespace Mine

theorem code169 {w : World} {h : Heap} (X : (KK w).In h) (hP : h.get? 165 = some tab0) : h.IsCode 169 165 #[] ∧ h.TableAt 169 165 #[] := by
  have h9 := X 169 _ rfl
  exact ⟨⟨_, _, _, _, _, _, _, _, _, _, h9, rfl, rfl, rfl, rfl, rfl, rfl, hP, rfl, trivial, by decide⟩, ⟨⟨_, _, h9, rfl, rfl, rfl⟩, hP⟩⟩

section
variable {w : World} {A : Around} {E : Value → Shared → Prop} {s : Shared} {mg mb : Str → Option Value} {b : Heap} {L : Addr} {m : Loc} {ld : Ld} {env : Env} {sc : Scope}

theorem ev_free {x : Str} {pos : Pos} {v : Value} {c : Addr} {Q : Value → Shared → Prop} (e : EnvIs env sc L) (hc : env.cells.lookup x = some c) (z : Z b L m ld s.heap) (hv : CellIs ld c (some v)) (h : Q v s)
    (hl : sc.names.lookup x = some .free := by rfl) (hd : (x == ("__debug__" : Str)) = false := by decide) (hn : (x == ("__classdict__" : Str)) = false := by decide) : wpAny (model PP w) A (eval (.Name x pos) env) Q E s :=
  wpAny_Name (wpAny_loadName_free e.fn (e.kindOf hl) hc (let ⟨o, a, d⟩ := hv; ⟨o, z.led _ _ a, d⟩) h hn) hd

/-- the generator's scope and element -/
abbrev genS : Scope := { kind := .function, names := [(".0", .local), ("k", .local), ("self", .free)], isGenerator := true, isCoroutine := false }

noncomputable abbrev genE (w : World) : Expr := match (fnBody (KK w) 170).getD 0 (.Pass default) with
  | .Return (some (.Call _ (e :: _) _ _)) _ => e
  | _ => .Name "k" default
noncomputable abbrev genElt (w : World) : Expr := match genE w with
  | .GeneratorExp elt _ _ _ => elt
  | e => e

theorem elt_spec {p : AsAddr} {f : Int → Option Bool} {seen asg : List Int} {c : Addr} {k : Int} {t : Tok} {Q : Value → Shared → Prop}
    (C : Cx (KK w) mg mb b) (e : EnvIs env genS L) (hc : env.cells.lookup ("self" : Str) = some c) (z : Z b L m ld s.heap) (hk : m "k" = some (.int k t)) (hv : CellIs ld c (some (.ref p.a))) (S : AS PP w ld p f seen asg) (hok : p.Ok b)
    (h : ∀ tk, Q (.ref s.heap.objs.size) { s with heap := s.heap.push (tupO [.int k t, optV (f k)]), toks := tk }) : wpAny (model PP w) A (eval (genElt w) env) Q E s := by
  show wpAny _ _ (eval (.Tuple [.Name "k" _, .Call (.Attribute (.Attribute (.Name "self" _) "_data" _) "get" _) [.Name "k" _] [] _] _ _) env) _ _ _
  obtain ⟨h1, h2, h3, h4, h5, h6, t1, t2, t3, t4, t5, t6, nn, hdict⟩ := S.dict
  obtain ⟨o1, kvs1, hx1, hk1, r1, _⟩ := S.data
  refine wpAny_Tuple (args_cons (ev_loc e z hk (args_cons (MethodCall_ (Attribute_Name_ (ev_free e hc z hv (ga_own C z S.inst hdict rfl rfl rfl rfl rfl ?_)))))))
  refine dm_get (s := { s with toks := s.toks + 1 }) z hx1 hk1 (callWith_method1 (args_cons (ev_loc (s := { s with toks := s.toks + 1 }) e z hk (args_nil ?_))))
  refine d_get (s := { s with toks := s.toks + 1 }) C z hx1 hok.n1 hk1 (args_nil ⟨by show 2 ≤ _; decide, ?_⟩)
  have hval : (valueAt kvs1 k).getD .none = optV (f k) := by
    rw [r1]; cases f k <;> rfl
  have := h (s.toks + 1 + 1)
  rw [← hval] at this
  exact this
end
end Mine

namespace Mine

section
variable {w : World} {A : Around} {E : Value → Shared → Prop} {s : Shared} {mg mb : Str → Option Value} {b : Heap} {L : Addr} {m : Loc} {ld : Ld} {env : Env} {sc : Scope}

theorem asMono {ld ld' : Ld} {p : AsAddr} {f : Int → Option Bool} {seen asg : List Int} (S : AS PP w ld p f seen asg) (hk : ∀ a o, o.cls ≠ .none → ld a = some o → ld' a = some o) : AS PP w ld' p f seen asg := by
  obtain ⟨h1, h2, h3, h4, h5, h6, t1, t2, t3, t4, t5, t6, n, q0⟩ := S.dict
  obtain ⟨o1, k1, q1, r1, g1⟩ := S.data
  obtain ⟨o2, k2, q2, r2, g2⟩ := S.orig
  obtain ⟨o3, q3, r3, g3⟩ := S.seen
  obtain ⟨o4, q4, r4, g4⟩ := S.asg
  obtain ⟨o5, k5, q5, r5, g5⟩ := S.nk
  exact ⟨hk _ _ (by simp) S.inst, ⟨h1, h2, h3, h4, h5, h6, t1, t2, t3, t4, t5, t6, n, hk _ _ (by simp) q0⟩, ⟨o1, k1, hk _ _ (by rw [dictOf_cls r1]; simp) q1, r1, g1⟩, ⟨o2, k2, hk _ _ (by rw [dictOf_cls r2]; simp) q2, r2, g2⟩,
    ⟨o3, hk _ _ (by rw [setK_cls r3]; simp) q3, r3, g3⟩, ⟨o4, hk _ _ (by rw [setK_cls r4]; simp) q4, r4, g4⟩, ⟨o5, k5, hk _ _ (by rw [setK_cls r5]; simp) q5, r5, g5⟩⟩

abbrev tabO (ps : Array Value) : Obj := { cls := .none, data := .fields ps }

/-- the base, its one table grown -/
theorem reg_self {ps : Array Value} (hP : b.get? 165 = some tab0) : (regrown b 165 ps).get? 165 = some (tabO ps) := Heap.get?_update_self _ hP rfl
theorem reg_ne {ps : Array Value} {a : Addr} (h : a ≠ 165) : (regrown b 165 ps).get? a = b.get? a := Heap.get?_update_other _ _ (Ne.symm h)
theorem reg_size {ps : Array Value} : (regrown b 165 ps).objs.size = b.objs.size := (Heap.SameBut.update b 165 _).1
theorem reg_ns {ps : Array Value} {a : Addr} {mm : Str → Option Value} (h : a ≠ 165) (hn : b.Ns a mm) : (regrown b 165 ps).Ns a mm := hn.at' fun o e => (reg_ne h).trans e
theorem Cx.reg {ps : Array Value} (C : Cx (KK w) mg mb b) : Cx (KK w) mg mb (regrown b 165 ps) where
  X := fun a o q => by
    rw [reg_ne (fun e => by rw [e] at q; cases (show (none : Option Obj) = some o from q))]
    exact C.X a o q
  g := reg_ns (by decide) C.g
  bb := reg_ns (by decide) C.bb
  nolimit := let ⟨mc, h1, h2⟩ := C.nolimit; ⟨mc, reg_ns (by decide) h1, h2⟩
  builtins := C.builtins
theorem Ok.reg {ps : Array Value} {p : AsAddr} (h : p.Ok b) : p.Ok (regrown b 165 ps) := by
  have e : ∀ a, New b a → New (regrown b 165 ps) a := fun a q => by unfold New; rw [reg_size]; exact q
  exact ⟨e _ h.nad, e _ h.n1, e _ h.n2, e _ h.n3, e _ h.n4, e _ h.n5, h.d1, h.d2, h.d12, h.d34, h.d35, h.d45⟩
theorem Z.reg {ps : Array Value} {h h' : Heap} (hP : b.get? 165 = some tab0) (z : Z b L m ld h) (hx : Heap.ExtBut 165 h h') (ht : h'.get? 165 = some (tabO ps)) : Z (regrown b 165 ps) L m (upd ld 165 (tabO ps)) h' := by
  have hL : L ≠ 165 := fun e => absurd (Heap.lt_size hP) (Nat.not_lt.mpr (e ▸ z.above))
  refine ⟨z.ns.extBut hx hL, fun a o q => ?_, (upd_ne hL).trans z.fr, fun a o q => ?_, by rw [reg_size]; exact z.above⟩
  · by_cases ha : a = 165
    · subst ha; rw [upd_self] at q; cases q; exact ht
    · rw [upd_ne ha] at q; exact hx _ _ ha (z.led _ _ q)
  · by_cases ha : a = 165
    · subst ha; rw [reg_self hP] at q; rw [upd_self]; exact q
    · rw [reg_ne ha] at q; rw [upd_ne ha]; exact z.base _ _ q

set_option maxHeartbeats 4000000 in
theorem items_spec {p : AsAddr} {f : Int → Option Bool} {seen asg : List Int} {bm : Addr} {ob : Obj} {Q : Value → Shared → Prop}
    (C : Cx (KK w) mg mb b) (M : BMod b mainGlobals mg bm ob) (hP : b.get? 165 = some tab0) (hB : Bs b s.heap) (r : Room A 1) (S : AS PP w s.heap.get? p f seen asg) (hok : p.Ok b) (hbare : AllBare s.gens)
    (h : ∀ s' ld' ps D vs ks c, Mv s s' → AllBare s'.gens → Led ld' s'.heap → ld' 165 = some (tabO ps) → (∀ a o, a ≠ 165 → s.heap.get? a = some o → ld' a = some o) → s.heap.get? D = none → New b D → ld' D = some (listOf vs.toArray c) →
      Tups ld' vs ks (ks.map fun k => optV (f k)) → ks.Perm seen → Q (.ref D) s') :
    wpAny (model PP w) A (call (.ref 170) [.ref p.a]) Q E s := by
  refine enterX (n := 0) C hB r rfl rfl rfl (BindsTo.of_eq rfl) rfl rfl rfl rfl rfl rfl rfl ?_
  intro A' env L ld h₁ tk r' e hcs hL hL0 z hk hcell hcode
  dsimp only at e hcs hcode
  have hcs' : env.cells = [((("self" : Str), L + 1) : Str × Addr)] := hcs
  have hce : env.cells.lookup ("self" : Str) = some (L + 1) := by rw [hcs']; rfl
  obtain ⟨hcv, hc0, hcn⟩ := hcell "self" (L + 1) hce
  replace hcv : CellIs ld (L + 1) (some (.ref p.a)) := hcv
  have S1 : AS PP w ld p f seen asg := asMono S fun a o _ q => hk a o q
  obtain ⟨g1, g2, g3, g4, g5, g6, t1, t2, t3, t4, t5, t6, nn, hdict⟩ := S1.dict
  obtain ⟨o3, hx3, ⟨es, ep, t, rfl, hE, hks, hf, hnd, hb9, hT, hLd, hR⟩, _⟩ := S1.seen
  refine wpAny_execs_cons (wpAny_Return_some (Call_ (ev_bi e C z rfl boot_sorted (PyProof.Rows.callWith_builtin1 (args_cons ?_)))))
  refine wpAny_GeneratorExp_make (cl := [((("self" : Str), L + 1) : Str × Addr)]) rfl (closureFor_of hcs' rfl) (by decide) rfl rfl r'.room ?_ (by intro _; rfl)
  refine Attribute_Name_ (ev_cell e hce z hcv (ga_own C z S1.inst hdict rfl rfl rfl rfl rfl ?_))
  refine pyIter_set (z.led _ _ hx3) hf hT ?_
  dsimp only
  have hI0 : ld h₁.objs.size = none := z.size_none
  generalize hH2 : h₁.push (siObj w p.x3 es ep t 0) = H2
  have hI2 : H2.get? h₁.objs.size = some (siObj w p.x3 es ep t 0) := by rw [← hH2]; exact Heap.get?_push_size _ rfl
  have hk2 : ∀ a o, h₁.get? a = some o → H2.get? a = some o := fun a o q => by rw [← hH2]; exact Heap.get?_push_of_some _ q
  have z₂ := z.ext hk2
  have hIlt : h₁.objs.size < H2.objs.size := Heap.lt_size hI2
  have hIn : New b h₁.objs.size := z.bs.size
  have hIa : ∀ a o, h₁.get? a = some o → a ≠ h₁.objs.size := fun a o q => ne_of_lt1 (Heap.lt_size q)
  generalize h₁.objs.size = I at hI0 hI2 hIlt hIn hIa
  have hIb : b.get? I = none := hIn.none
  have hX2 := C.X.keeps z₂.stays
  have hP2 : H2.get? 165 = some tab0 := z₂.stays _ _ hP
  refine ⟨C.nolimit.keeps z₂.stays, wpAny_genexprCodeX (c := 169) (P := 165) (ps := #[]) hcode (code169 hX2 hP2).1 (code169 hX2 hP2).2 rfl fun c' h₃ tk₃ hx₃ hge hlt hcode₃ hrec₃ htab₃ _ => ?_⟩
  dsimp only at hx₃ hge hlt hcode₃ htab₃
  generalize hps : ((#[] : Array Value) ++ _) = ps at htab₃ hcode₃
  have z₃ := z₂.reg hP hx₃ htab₃.2
  have C₃ : Cx (KK w) mg mb (regrown b 165 ps) := C.reg
  have hok₃ : p.Ok (regrown b 165 ps) := Ok.reg hok
  have hne : ∀ a o, h₁.get? a = some o → a ≠ 165 → h₃.get? a = some o := fun a o q h165 => hx₃ a o h165 (hk2 a o q)
  have hbm : bm ≠ 165 := fun q => by
    have := M.obj; rw [q, hP] at this
    have hc := M.cls
    rw [← Option.some.inj this] at hc; cases hc
  refine wpAny_builtinsFor (bm := bm) (o := ob) (m := mg) (by rw [e.globals]; exact C₃.g.keeps z₃.stays) M.name M.ne (hx₃ _ _ hbm (z₂.stays _ _ M.obj)) M.cls M.dict M.data ?_
  dsimp only
  intro h₄ hn₄ hs₄
  have hCI : I < h₃.objs.size := Nat.lt_of_lt_of_le hIlt (Nat.le_trans hge (Nat.le_of_lt hlt))
  have hk4 : ∀ a o, h₃.get? a = some o → h₄.get? a = some o := fun a o q => hs₄.extBut a o (ne_of_lt1 (Heap.lt_size q)) (Heap.get?_push_of_some _ q)
  have hsz4 : h₄.objs.size = h₃.objs.size + 1 := by rw [hs₄.1, Heap.size_push]
  have hI3 : h₃.get? I = some (siObj w p.x3 es ep t 0) := hx₃ _ _ (fun q => by rw [q] at hIb; rw [hIb] at hP; cases hP) hI2
  have hLlt : L < h₃.objs.size := z₃.ns.lt
  generalize hC : h₃.objs.size = CC at hn₄ hs₄ hCI hsz4 hLlt ⊢
  have hlt3 : ∀ a o, h₃.get? a = some o → a < CC := fun a o q => hC ▸ Heap.lt_size q
  refine args_nil ?_
  have hk5 : ∀ (go : Obj) a o, h₃.get? a = some o → (h₄.push go).get? a = some o := fun go a o q => Heap.get?_push_of_some _ (hk4 a o q)
  have hnl := C₃.nolimit.keeps z₃.stays
  have hcs0 : @LT.lt Nat _ cStatics CC := by obtain ⟨mc, hns, _⟩ := hnl; rw [← hC]; exact hns.lt
  have hcsI : cStatics ≠ I := fun q => by
    obtain ⟨mc, hns, _⟩ := C.nolimit
    obtain ⟨oc, hoc, _⟩ := LCg.ns_obj hns
    rw [q, hIb] at hoc; cases hoc
  have h165I : (165 : Addr) ≠ I := fun q => by rw [← q, hP] at hIb; cases hIb
  have h165C : @LT.lt Nat _ 165 CC := hlt3 165 _ htab₃.2
  have hordp : ((walkOf w p.x3 ep es).toList.map keyOf).Perm seen := hks ▸ (walkOf_perm w p.x3 ep es).map keyOf
  have hlen : ((walkOf w p.x3 ep es).toList.map keyOf).length < 64 := by
    rw [hordp.length_eq]
    have := rng_le hnd fun k hk => by have := hR k hk; omega
    omega
  have hoLI : L ≠ I := by obtain ⟨oL, hL, _⟩ := LCg.ns_obj z.ns; exact hIa L _ hL
  have hldx : ∀ x o, ld x = some o → x ≠ 165 → x < CC ∧ x ≠ I := fun x o q h165 => ⟨hlt3 x o (hne x o (z.led _ _ q) h165), hIa x o (z.led _ _ q)⟩
  have h3I : p.x3 ≠ I := hIa _ _ (z.led _ _ hx3)
  have hnot165 : ∀ a, New b a → a ≠ 165 := fun a q e => absurd (Heap.lt_size hP) (Nat.not_lt.mpr (e ▸ q))
  have hvals : ∀ k, (optV (f k) == optV (f k)) = true := fun k => by
    cases f k with
    | none => rfl
    | some c => cases c <;> rfl
  refine call_sortedH (C := CC) (fp := List.range CC) (wr := [I]) (g := s.gens.size) (ord := (walkOf w p.x3 ep es).toList.map keyOf) (gv := fun k => optV (f k)) r'.handled ?_ ?_ r'.room (Nat.ne_of_lt hcs0) (fun q => hcsI (List.mem_singleton.mp q)) (List.mem_range.mpr hcs0)
    ?_ (fun x q => by rw [List.mem_singleton.mp q]; exact List.mem_range.mpr hCI) (fun x q => by rw [List.mem_singleton.mp q]; exact hCI) ?_ (hbare.push rfl) (z₃.ext (hk5 _)) ?_ (Nat.ne_of_lt hLlt) (fun q => hoLI (List.mem_singleton.mp q)) hlen (hordp.nodup_iff.mpr hnd) hvals ?_
  · rw [hsz4]; exact Nat.succ_ne_self _
  · intro q; have := List.mem_singleton.mp q; rw [hsz4] at this; rw [← this] at hCI; exact absurd hCI (Nat.not_lt.mpr (Nat.le_succ _))
  · intro x hx
    show x < (h₄.push _).objs.size
    rw [Heap.size_push, hsz4]
    rcases List.mem_cons.mp hx with q | q
    · rw [q, hsz4]; exact Nat.lt_succ_self _
    · rcases List.mem_cons.mp q with q | q
      · rw [q]; exact Nat.lt_succ_of_lt (Nat.lt_succ_self _)
      · exact Nat.lt_succ_of_lt (Nat.lt_succ_of_lt (List.mem_range.mp q))
  · rw [show ((walkOf w p.x3 ep es).toList.map keyOf).length = es.size by rw [List.length_map, Array.length_toList, walkOf_size]]
    refine GenAtH.fresh (A := A'.in1.in1) (cenv := genEnv genS [((("self" : Str), L + 1) : Str × Addr)] CC (.ref c') builtinsNs env) (x := "k") (elt := genElt w) (m := fun y => if y = ".0" then some (.ref I) else none) r'.handled
      (fun A'' hA => (walks_set (prog := PP) hA I p.x3 (Ne.symm h3I) es ep t hf hT hLd).mono_fp fun x hx => ?_) _ rfl (by rfl) rfl (fun q => Nat.lt_irrefl _ (List.mem_range.mp q)) ?_ ⟨_, _, _, Heap.get?_push_size _ rfl, rfl, rfl, rfl⟩ (Array.getElem?_push_size ..) ⟨hk5 _ _ _ hI3, hk5 _ _ _ (hne _ _ (z.led _ _ hx3) (hnot165 _ hok.n3))⟩ (hn₄.push _) (hnl.keeps (hk5 _))
    · rcases List.mem_cons.mp hx with q | q
      · rw [q]; exact List.mem_range.mpr hCI
      · rw [List.mem_singleton.mp q]; exact List.mem_range.mpr (hldx _ _ hx3 (hnot165 _ hok.n3)).1
    · intro A'' E'' i v s₂ m₂ hA hPv hn₂ hm₂ hkp
      obtain ⟨e', he', rfl⟩ := hPv
      have hmem : e' ∈ es.toList := (walkOf_perm w p.x3 ep es).mem_iff.mp (Array.mem_toList_iff.mpr (Array.mem_of_getElem? he'))
      obtain ⟨k, tt, hkt⟩ := hE e' hmem
      have hord : ((walkOf w p.x3 ep es).toList.map keyOf)[i]? = some k := by
        rw [List.getElem?_map, Array.getElem?_toList, he', hkt]; rfl
      have hkk : ∀ a o, a < CC → a ≠ I → h₃.get? a = some o → s₂.heap.get? a = some o := fun a o q1 q2 q3 => hkp a (List.mem_range.mpr q1) (fun q => q2 (List.mem_singleton.mp q)) o (hk5 _ _ _ q3)
      have zG : Z (regrown b 165 ps) CC m₂ (fun a => if a < CC ∧ a ≠ I then h₃.get? a else none) s₂.heap := by
        refine ⟨hn₂, fun a o q => ?_, ?_, fun a o q => ?_, ?_⟩
        · split at q
          · rename_i hh; exact hkk a o hh.1 hh.2 q
          · cases q
        · rw [if_neg fun q => Nat.lt_irrefl _ q.1]
        · have h3 := z₃.stays a o q
          have hne' : a ≠ I := fun e => by
            rw [e] at q
            by_cases hI165 : I = 165
            · exact h165I hI165.symm
            · rw [reg_ne hI165, hIb] at q; cases q
          rw [if_pos ⟨hlt3 a o h3, hne'⟩]; exact h3
        · rw [← hC]; exact Nat.le_of_lt (Nat.lt_of_le_of_lt z₃.above z₃.ns.lt)
      have hup : ∀ a o, a ≠ 165 → ld a = some o → (fun a => if a < CC ∧ a ≠ I then h₃.get? a else none) a = some o := fun a o h165 q => by
        dsimp only
        rw [if_pos (hldx a o q h165)]; exact hne a o (z.led _ _ q) h165
      have hSG : AS PP w (fun a => if a < CC ∧ a ≠ I then h₃.get? a else none) p f seen asg := asMono S1 fun a o hc q => hup a o (fun e => by
        have h1 := z.led _ _ q
        rw [e, z.stays _ _ hP] at h1
        exact hc (by rw [← Option.some.inj h1])) q
      have hcG : CellIs (fun a => if a < CC ∧ a ≠ I then h₃.get? a else none) (L + 1) (some (.ref p.a)) := by
        obtain ⟨o, q1, q2⟩ := hcv
        exact ⟨o, hup _ _ (hnot165 _ hcn) q1, q2⟩
      refine elt_spec C₃ (L := CC) ⟨rfl, rfl, e.globals, rfl, rfl⟩ (c := L + 1) rfl zG (hkt ▸ hm₂) hcG hSG hok₃ fun tk' => ?_
      refine ⟨⟨_, tt, k, rfl, ?_, hord, Heap.get?_push_size _ rfl⟩, _, tk', rfl, fun a o q => Heap.get?_push_of_some _ q⟩
      exact hn₂.lt
  · intro x o q
    by_cases hx : x = 165
    · subst hx; exact ⟨Nat.ne_of_lt h165C, fun q => h165I (List.mem_singleton.mp q)⟩
    · rw [upd_ne hx] at q
      obtain ⟨q1, q2⟩ := hldx x o q hx
      exact ⟨Nat.ne_of_lt q1, fun q => q2 (List.mem_singleton.mp q)⟩
  · intro s' ld' D vs ks c hm hb' z' hold hD hDn hDv tups hperm
    have hD165 : D ≠ 165 := fun q => by rw [q, upd_self] at hD; cases hD
    rw [upd_ne hD165] at hD
    refine h s' ld' ps D vs ks c (Mv.trans ⟨_, _, _, rfl⟩ hm) hb' z'.led (hold _ _ upd_self) (fun a o ha q => hold _ _ ((upd_ne ha).trans (hk _ _ q))) ?_ (by unfold New at hDn ⊢; rw [reg_size] at hDn; exact hDn) hDv tups (hperm.trans hordp)
    cases q : s.heap.get? D with
    | none => rfl
    | some o => have := hk _ _ q; rw [hD] at this; cases this
end
end Mine

namespace Mine

theorem lk_list_keys : typeLookup (.type "list") "keys" = pure none := by rw [typeLookup_type, builtinLookup_eq_fast]; kernel_rfl
theorem lk_list_getattr : typeLookup (.type "list") "__getattr__" = pure none := by rw [typeLookup_type, builtinLookup_eq_fast]; kernel_rfl
theorem sub_ae : isSubtype (.type "AttributeError") (.type "AttributeError") = pure true := by rw [isSubtype_type]; kernel_rfl

section
variable {prog : Program} {w : World} {A : Around} {E : Value → Shared → Prop} {s : Shared} {a : Addr} {its : Array Value} {n : Nat}

/-- what raising an AttributeError does -/
theorem attr_raise {α : Type} {o : Value} {name msg : Str} {Q : α → Shared → Prop} (hh : A.handled = none) (hm : msg.length ≤ sizeLine)
    (h : ∀ e h' tk, h'.get? e ≠ none → (∃ oe, h'.get? e = some oe ∧ oe.cls = .type "AttributeError") → (∀ b ob, s.heap.get? b = some ob → h'.get? b = some ob) → E (.ref e) { s with heap := h', toks := tk }) :
    wpAny (model prog w) A (raiseAttrError o name msg) Q E s := by
  unfold raiseAttrError
  refine wpAny_bind (wpAny_mkStr ?_ hm)
  refine wpAny_bind ?_
  simp only [newExc, newTuple]
  refine wpAny_bind (wpAny_newObj_type ?_ (by size_fits))
  dsimp only
  refine wpAny_bind (m := firstArgMember _ _) (wpAny_of_eq (a := Value.none) (by first | rfl | (simp only [firstArgMember]; rfl)) ?_)
  refine wpAny_newObj_type ?_ (by size_fits)
  refine wpAny_bind (wpAny_mkText ?_)
  dsimp only
  generalize hH : s.heap.push { cls := .type "tuple", data := .seq #[.str msg s.toks] } = H
  have hk : ∀ b ob, s.heap.get? b = some ob → H.get? b = some ob := fun b ob q => by rw [← hH]; exact Heap.get?_push_of_some _ q
  generalize hF : (#[Value.ref s.heap.objs.size, Value.none, Value.none, Value.none, Value.bool false, Value.none] ++ ownMembersOf (Value.type "AttributeError") [Value.str msg s.toks] : Array Value) = fs
  have hfs : fs = #[Value.ref s.heap.objs.size, Value.none, Value.none, Value.none, Value.bool false, Value.none, unsetMember, unsetMember] := by rw [← hF]; rfl
  have hE : (H.push { cls := .type "AttributeError", data := .fields fs }).get? H.objs.size = some { cls := .type "AttributeError", data := .fields fs } := Heap.get?_push_size _ rfl
  have hT : Shared.TypeIs { s with heap := H.push { cls := .type "AttributeError", data := .fields fs }, toks := s.toks + 1 + 1 } (.ref H.objs.size) "AttributeError" := ⟨_, hE, rfl⟩
  unfold noteAttr
  dsimp only
  refine wpAny_bind (wpAny_bind ?_)
  unfold lacksNameAndObj
  dsimp only
  refine wpAny_bind (wpAny_isInstance (T := "AttributeError") (b := true) hT sub_ae ?_)
  simp only [Bool.not_true, Bool.false_eq_true, if_false]
  refine wpAny_bind (wpAny_load hE ?_)
  subst hfs
  refine wpAny_of_eq (a := true) rfl ?_
  rw [if_pos rfl]
  refine wpAny_bind (wpAny_rule ?_)
  refine wpAny_bind (wpAny_typeOf hT ?_)
  dsimp only
  unfold layMembers
  refine wpAny_bind (wpAny_load hE ?_)
  dsimp only
  refine wpAny_update hE ?_
  have hU := Heap.get?_update_self (Obj.mapFields fun vs => vs.extract 0 6 ++ #[Value.str name (s.toks + 1), o]) hE rfl
  simp only [raiseNew]
  refine wpAny_bind (wpAny_handled ?_)
  rw [hh]
  refine wpAny_throw (h _ _ _ (by rw [hU]; simp) ⟨_, hU, rfl⟩ fun b ob q => ?_)
  have hb : b ≠ H.objs.size := ne_of_lt1 (Heap.lt_size (hk b ob q))
  exact (Heap.get?_update_other _ _ (Ne.symm hb)).trans (Heap.get?_push_of_some _ (hk b ob q))

theorem list_no_keys {Q : Option Value → Shared → Prop} (hh : A.handled = none) (hx : s.heap.get? a = some (listOf its n))
    (h : ∀ h' tk, (∀ b o, s.heap.get? b = some o → h'.get? b = some o) → Q none { s with heap := h', toks := tk }) : wpAny (model prog w) A (getAttr? (.ref a) "keys") Q E s := by
  have hT : ∀ tk, Shared.TypeIs { s with toks := tk } (.ref a) "list" := fun _ => ⟨_, hx, rfl⟩
  unfold getAttr? getAttrBy?
  refine wpAny_bind (wpAny_mkText ?_)
  refine wpAny_bind (wpAny_attempt ?_)
  unfold getAttrBy
  refine wpAny_holding ?_
  refine wpAny_bind (wpAny_typeOf (hT _) ?_)
  refine wpAny_bind (wpAny_of_eq F.slot_list_getattribute.lookup ?_)
  show wpAny _ _ (getAttrByItsOwn _ _ _ _ _ _) _ _ _
  unfold getAttrByItsOwn
  refine wpAny_bind (wpAny_pure ?_)
  refine wpAny_bind (wpAny_attempt (wpAny_holding ?_))
  show wpAny _ _ (boundAndCalled _ _ _) _ _ _
  unfold boundAndCalled
  refine wpAny_bind (wpAny_of_eq (F.slot_list_getattribute.bind (.ref a)) ?_)
  refine wpAny_call_entry F.slot_list_getattribute (hT _) F.entry_list_ga ?_ (F.args_list_getattribute_2 _ _)
  unfold Builtin.«object.__getattribute__»
  refine wpAny_bind (wpAny_pure ?_)
  refine wpAny_bind (wpAny_pure ?_)
  refine wpAny_bind (wpAny_typeOf (hT _) ?_)
  unfold Builtin.ObjectAttr.find
  refine wpAny_bind (wpAny_bind (wpAny_of_eq lk_list_keys ?_))
  refine wpAny_bind (wpAny_pure ?_)
  refine wpAny_bind (wpAny_pure ?_)
  show wpAny _ _ (Builtin.ObjectAttr.ownThenClass _ _ _ _) _ _ _
  unfold Builtin.ObjectAttr.ownThenClass
  refine wpAny_bind ?_
  show wpAny _ _ (Builtin.ObjectAttr.ownDict a >>= _) _ _ _
  unfold Builtin.ObjectAttr.ownDict
  refine wpAny_bind (wpAny_bind (wpAny_loadPart hx ?_))
  show wpAny _ _ (instanceDict a false) _ _ _
  unfold instanceDict
  refine wpAny_bind (wpAny_loadPart hx (wpAny_pure ?_))
  refine wpAny_pure ?_
  refine wpAny_bind (m := Builtin.ObjectAttr.copiedAttributeGuard _ _) (wpAny_of_eq (a := ()) (by rfl) ?_)
  refine wpAny_bind (wpAny_rule (wpAny_pure ?_))
  show wpAny _ _ (Builtin.ObjectAttr.noSuchAttribute _ _) _ _ _
  unfold Builtin.ObjectAttr.noSuchAttribute
  have hname : ∀ s' : Shared, s'.TypeIs (.ref a) "list" → ∀ (Q' : String → Shared → Prop) (E' : Value → Shared → Prop), Q' "list" s' → wpAny (model prog w) A.in1 (typeNameOfCut 100 (.ref a)) Q' E' s' := fun s' hT' Q' E' hq => by
    unfold typeNameOfCut shownTypeOf
    refine wpAny_bind (wpAny_bind (wpAny_typeOf hT' ?_))
    simp only [show (Value.type "list" == Value.type "builtin_function_or_method") = false by decide, Bool.false_eq_true, if_false]
    refine wpAny_pure ?_
    have e : typeName (.type "list") = pure "list" := by unfold typeName; rw [find?_eq_fast]; kernel_rfl
    rw [show typeNameCut 100 (.type "list") = typeName (.type "list") from rfl, e]; exact wpAny_pure hq
  refine wpAny_bind (hname _ (hT _) _ _ ?_)
  refine attr_raise (A := A.in1) hh (by decide) fun e h' tk _ he hk => ?_
  obtain ⟨oe, he1, he2⟩ := he
  have hTe : Shared.TypeIs { s with heap := h', toks := tk } (.ref e) "AttributeError" := ⟨_, he1, he2⟩
  dsimp only
  unfold getattributeRaised
  refine wpAny_bind (wpAny_isInstance hTe sub_ae ?_)
  rw [if_pos rfl]
  refine wpAny_bind (wpAny_of_eq (a := none) lk_list_getattr ?_)
  simp only [hookOrError, attributeErrorLeaves, Bool.not_false, if_true]
  refine wpAny_bind (wpAny_throw ?_)
  refine wpAny_bind (wpAny_isInstance hTe sub_ae ?_)
  rw [if_pos rfl]
  exact wpAny_pure (h h' tk hk)
end
end Mine

namespace Mine

theorem entry_upl : entryFor table "dict.update.loop" = some Builtin.«dict.update.loop» := entryFor_of_tree (by kernel_rfl)
theorem plain_upl : plainId "dict.update.loop" = true := by decide +kernel

section
variable {prog : Program} {w : World} {A : Around} {E : Value → Shared → Prop} {s : Shared} {b : Heap} {L : Addr} {m : Str → Option Value} {ld : Ld}

theorem zip_stored {ks : List Int} {us : List Value} {i : Nat} (hl : us.length = ks.length) (hn : ks.Nodup) (hi : i < ks.length) :
    stored ((ks.take i).zip (us.take i)) ks[i] (us[i]'(hl ▸ hi)) = (ks.take (i + 1)).zip (us.take (i + 1)) := by
  have hui : i < us.length := hl ▸ hi
  have hno : ¬ (((ks.take i).zip (us.take i)).any fun kv => decide (kv.1 = ks[i])) = true := by
    rw [List.any_eq_true]
    rintro ⟨⟨k, u⟩, hm, q⟩
    have hk := (List.of_mem_zip hm).1
    have q' : k = ks[i] := of_decide_eq_true q
    obtain ⟨j, hj, hg⟩ := List.getElem_of_mem hk
    have hj' : j < i := by simp at hj; omega
    have hp := List.pairwise_iff_getElem.mp hn j i (by omega) hi hj'
    rw [List.getElem_take] at hg
    exact hp (hg.trans q')
  unfold stored
  rw [if_neg hno, List.take_add_one, List.take_add_one, List.getElem?_eq_getElem hi, List.getElem?_eq_getElem hui]
  rw [List.zip_append (by simp [hl])]
  rfl

theorem code_updloop {l it d : Addr} {vs us : List Value} {ks : List Int} {Q : Value → Shared → Prop} {h₀ : Heap} (hh : A.handled = none)
    (tup : ∀ (i : Nat) v k u, vs[i]? = some v → ks[i]? = some k → us[i]? = some u → ∃ T t, v = .ref T ∧ h₀.get? T = some (tupO [.int k t, u]) ∧ T ≠ it ∧ T ≠ d)
    (hlv : vs.length = ks.length) (hlu : us.length = ks.length) (hnd : ks.Nodup) (h1 : it ≠ l) (h2 : it ≠ d) (h3 : l ≠ d) (hn : ks.length ≤ 1000)
    (h : ∀ h' tk, h'.DictOf (intKind prog w) d (ks.zip us) → (∀ c o, c ≠ it → c ≠ d → h₀.get? c = some o → h'.get? c = some o) → Q .none { s with heap := h', toks := tk }) :
    ∀ (k i : Nat) (h' : Heap) (tk : Nat), ks.length - i = k → i ≤ ks.length → h'.IsListIter it l i → h'.IsList l vs.toArray → h'.DictOf (intKind prog w) d ((ks.take i).zip (us.take i)) → (∀ c o, c ≠ it → c ≠ d → h₀.get? c = some o → h'.get? c = some o) →
      codeAny (model prog w) A (.builtin "dict.update.loop" ⟨[.ref d, .ref it, rawInt i, .none], []⟩) (wants Q E) { s with heap := h', toks := tk } := by
  intro k
  induction k with
  | zero =>
    intro i h' tk hk hi hit hl hd hkp
    obtain rfl : i = ks.length := by omega
    refine codeAny_builtin entry_upl ?_
    rw [Around.under_plainId plain_upl _]
    show wpAny _ A.in1 (pyNext (.ref it) >>= _) _ _ _
    refine wpAny_bind (wpAny_pyNext_list_end (s := { s with heap := h', toks := tk }) (A := A.in1) hh hit hl (by rw [List.getElem?_toArray, List.getElem?_eq_none (by omega)]) fun h₁ he₁ => ?_)
    refine wpAny_bind (m := Builtin.Dict.addKeywords d []) (wpAny_pure (wpAny_pure ?_))
    rw [List.take_length, List.take_of_length_le (by omega)] at hd
    exact h h₁ tk (hd.extBut he₁ h2.symm) fun c o q1 q2 q3 => he₁ c o q1 (hkp c o q1 q2 q3)
  | succ k ih =>
    intro i h' tk hk hi hit hl hd hkp
    have hlt : i < ks.length := by omega
    have hui : i < us.length := hlu ▸ hlt
    have hvi : i < vs.length := hlv ▸ hlt
    obtain ⟨T, t, hT1, hT2, hT3, hT4⟩ := tup i vs[i] ks[i] us[i] (by simp) (by simp) (by simp)
    refine codeAny_builtin entry_upl ?_
    rw [Around.under_plainId plain_upl _]
    show wpAny _ A.in1 (pyNext (.ref it) >>= _) _ _ _
    refine wpAny_bind (wpAny_pyNext_list_item (s := { s with heap := h', toks := tk }) hit hl (x := .ref T) (by rw [List.getElem?_toArray, List.getElem?_eq_getElem hvi, hT1]) fun h₁ hit₁ hs₁ => ?_)
    have hd₁ := hd.sameBut hs₁ h2.symm
    have hl₁ : h₁.IsList l vs.toArray := hl.extBut hs₁.extBut h1.symm
    have hT₁ : h₁.get? T = some (tupO [.int ks[i] t, us[i]]) := (hs₁.2 T hT3).trans (hkp T _ hT3 hT4 hT2)
    refine wpAny_bind (wpAny_holding (wpAny_bind (wpAny_tryCatch ?_)))
    unfold Builtin.Dict.pairItems
    refine wpAny_bind (wpAny_typeOf (s := { s with heap := h₁, toks := tk }) ⟨_, hT₁, rfl⟩ ?_)
    rw [if_pos (by decide)]
    refine wpAny_bind (wpAny_seqItems (s := { s with heap := h₁, toks := tk }) hT₁ rfl (wpAny_pure ?_))
    show wpAny _ _ (holding [.int ks[i] t, us[i]] (dictSet d (.int ks[i] t) us[i])) _ _ _
    refine wpAny_holding (wpAny_dictSet_pairs (s := { s with heap := h₁, toks := tk }) (intKind_is prog w ks[i] t) hd₁ (fun h₂ hd₂ hs₂ => ?_) (by rw [List.length_zip, List.length_take, sizeLine_eq]; omega))
    rw [zip_stored hlu hnd hlt] at hd₂
    refine wpAny_pure ⟨plainId_quiet plain_upl _, ?_⟩
    exact ih (i + 1) h₂ (tk + 1) (by omega) hlt (hit₁.extBut hs₂.extBut h2) (hl₁.extBut hs₂.extBut h3) hd₂ fun c o q1 q2 q3 => (hs₂.2 c q2).trans ((hs₁.2 c q1).trans (hkp c o q1 q2 q3))

/-- dict(a list of pairs) -/
theorem call_dictT {l : Addr} {vs us : List Value} {ks : List Int} {n : Nat} {Q : Value → Shared → Prop} (hh : A.handled = none) (led : Led ld s.heap) (hl : ld l = some (listOf vs.toArray n)) (t : Tups ld vs ks us) (hn : ks.length ≤ 1000)
    (h : ∀ D h' tk, s.heap.get? D = none → s.heap.objs.size ≤ D → h'.DictOf (intKind prog w) D (ks.zip us) → (∀ c o, s.heap.get? c = some o → h'.get? c = some o) → Q (.ref D) { s with heap := h', toks := tk }) :
    wpAny (model prog w) A (call (.type "dict") [.ref l]) Q E s := by
  refine callType_codes (Q₁ := fun obj s₁ => obj = .ref s.heap.objs.size ∧ s₁ = { s with heap := s.heap.push { cls := .type "dict", data := .dict #[] } }) F.kt_called_dict (F.kt_typeCall_dict_1 _) F.entry_dict_init (kt_code_dict_new _ ⟨rfl, rfl⟩) ?_
  rintro obj s₁ ⟨rfl, rfl⟩
  have hnew : (s.heap.push { cls := .type "dict", data := .dict #[] }).DictOf (intKind prog w) s.heap.objs.size [] := Heap.DictOf.new s.heap
  have hl' := led _ _ hl
  have hlp : (s.heap.push { cls := .type "dict", data := .dict #[] }).get? l = some (listOf vs.toArray n) := Heap.get?_push_of_some _ hl'
  refine ⟨hnew.typeIs, F.args_dict_init_2 _ _, ?_⟩
  unfold Builtin.«dict.__init__»
  refine wpAny_bind ?_
  unfold Builtin.Dict.selfAndRest
  refine wpAny_bind (wpAny_notOrdered_dict hnew.typeIs ?_)
  show wpAny _ _ (pure (s.heap.objs.size, [Value.ref l])) _ _ _
  refine wpAny_pure ?_
  show wpAny _ _ (Builtin.Dict.updateFrom "dict.__init__" s.heap.objs.size (.ref l) [] .none) _ _ _
  unfold Builtin.Dict.updateFrom
  refine wpAny_bind (wpAny_typeOf ⟨_, hlp, rfl⟩ ?_)
  rw [if_pos (by decide)]
  refine wpAny_bind (list_no_keys (A := A.in1.in1) hh hlp fun h₁ tk₁ hk₁ => ?_)
  rw [if_pos (show (none : Option Value).isNone = true from rfl)]
  refine wpAny_bind (wpAny_rule ?_)
  have hl₁ : h₁.IsList l vs.toArray := ⟨_, hk₁ _ _ hlp, rfl, n, rfl⟩
  refine wpAny_bind (wpAny_pyIter_list (s := { s with heap := h₁, toks := tk₁ }) hl₁ ?_)
  refine wpAny_pure ⟨plainId_quiet plain_upl _, ?_⟩
  have hD1 : s.heap.objs.size < h₁.objs.size := by
    have := Heap.lt_size (hk₁ _ _ (Heap.get?_push_size s.heap (o := { cls := .type "dict", data := .dict #[] }) rfl))
    exact this
  have hl1 : l < s.heap.objs.size := Heap.lt_size hl'
  have hkeep : ∀ c o, s.heap.get? c = some o → (h₁.push { cls := .type "list_iterator", data := .fields #[.ref l, .int 0 0] }).get? c = some o := fun c o q => Heap.get?_push_of_some _ (hk₁ _ _ (Heap.get?_push_of_some _ q))
  have hdk : (h₁.push { cls := .type "list_iterator", data := .fields #[.ref l, .int 0 0] }).DictOf (intKind prog w) s.heap.objs.size [] := by
    obtain ⟨o, ho, hd⟩ := Heap.dictOf_iff.mp hnew
    exact Heap.dictOf_iff.mpr ⟨o, Heap.get?_push_of_some _ (hk₁ _ _ ho), hd⟩
  refine code_updloop (A := A.in1) (s := s) (h₀ := s.heap) (l := l) (vs := vs) (us := us) (ks := ks) hh (fun i v k u q1 q2 q3 => ?_) t.len t.lenu t.nodup (Nat.ne_of_gt (Nat.lt_trans hl1 hD1)) (Nat.ne_of_gt hD1) (Nat.ne_of_lt hl1) hn (fun h' tk hd hk => ?_) ks.length 0 _ _ rfl (Nat.zero_le _) ⟨_, Heap.get?_push_size _ rfl, rfl, rfl⟩ ⟨_, Heap.get?_push_of_some _ (hk₁ _ _ hlp), rfl, n, rfl⟩ hdk (fun c o _ _ q => hkeep c o q)
  · obtain ⟨T, tt, rfl, e⟩ := t.at' i v k u q1 q2 q3
    have hT := Heap.lt_size (led _ _ e)
    exact ⟨T, tt, rfl, led _ _ e, Nat.ne_of_lt (Nat.lt_trans hT hD1), Nat.ne_of_lt hT⟩
  · refine ⟨rfl, h _ h' tk (sz_none (Nat.le_refl _)) (Nat.le_refl _) hd fun c o q => ?_⟩
    have hc := Heap.lt_size q
    exact hk c o (Nat.ne_of_lt (Nat.lt_trans hc hD1)) (Nat.ne_of_lt hc) q
end
end Mine

namespace Mine

section
variable {w : World} {A : Around} {E : Value → Shared → Prop} {s : Shared} {mg mb : Str → Option Value} {b : Heap} {L : Addr} {m : Loc} {ld : Ld} {env : Env} {sc : Scope}

set_option maxHeartbeats 4000000 in
theorem todict_spec {p : AsAddr} {f : Int → Option Bool} {seen asg : List Int} {bm : Addr} {ob : Obj} {Q : Value → Shared → Prop}
    (C : Cx (KK w) mg mb b) (M : BMod b mainGlobals mg bm ob) (hP : b.get? 165 = some tab0) (hB : Bs b s.heap) (r : Room A 2) (S : AS PP w s.heap.get? p f seen asg) (hok : p.Ok b) (hbare : AllBare s.gens)
    (h : ∀ s' ld' ps D (ks : List Int), Mv s s' → AllBare s'.gens → Led ld' s'.heap → ld' 165 = some (tabO ps) → (∀ a o, a ≠ 165 → s.heap.get? a = some o → ld' a = some o) → s.heap.get? D = none → New b D →
      (∃ o, ld' D = some o ∧ o.IsDictOf (intKind PP w) (ks.zip (ks.map fun k => optV (f k)))) → ks.Perm seen → Q (.ref D) s') :
    wpAny (model PP w) A (call (.ref 222) [.ref p.a]) Q E s := by
  refine enter (n := 1) C hB r rfl rfl rfl (BindsTo.of_eq rfl) rfl rfl rfl rfl rfl rfl rfl rfl ?_
  intro A' env L h₁ tk r' e z
  dsimp only at e
  obtain ⟨g1, g2, g3, g4, g5, g6, t1, t2, t3, t4, t5, t6, nn, hdict⟩ := S.dict
  refine wpAny_execs_cons (wpAny_Return_some (Call_ (ev_bi e C z rfl boot_dict (Pv.callWith_type1 (args_cons (MethodCall_ (ev_loc e z rfl (gm_inst C z S.inst hdict rfl rfl rfl rfl (cw_K0 C z rfl ?_)))))))))
  refine items_spec (s := { s with heap := h₁, toks := tk }) C M hP z.bs r' (asMono S fun a o _ q => z.led _ _ q) hok hbare fun s' ld' ps D vs ks c hm hb' led' h165 hold hD0 hDn hDv tups hperm => ?_
  have hnd := tups.nodup
  have hlen : ks.length ≤ 19 := by
    obtain ⟨o3, _, hk3, hr⟩ := S.seen
    rw [hperm.length_eq]; exact set_le hk3 hr
  refine args_nil (call_dictT r'.handled led' hDv tups (by omega) fun D' h' tk' hD' hDs hdic hk' => ?_)
  obtain ⟨o', ho', hdo⟩ := Heap.dictOf_iff.mp hdic
  have hlD' : ld' D' = none := by
    cases q : ld' D' with
    | none => rfl
    | some o => have := led' _ _ q; rw [hD'] at this; cases this
  refine h { s' with heap := h', toks := tk' } (upd ld' D' o') ps D' ks (Mv.trans (Mv.trans ⟨_, _, _, rfl⟩ hm) ⟨_, _, _, rfl⟩) hb' (fun a o q => ?_) (upd_old hlD' h165) (fun a o ha q => upd_old hlD' (hold a o ha (z.led _ _ q))) ?_ ?_ ⟨o', upd_self, hdo⟩ hperm
  · by_cases ha : a = D'
    · subst ha; rw [upd_self] at q; cases q; exact ho'
    · rw [upd_ne ha] at q; exact hk' _ _ (led' _ _ q)
  · cases q : s.heap.get? D' with
    | none => rfl
    | some o =>
      by_cases ha : D' = 165
      · rw [ha, h165] at hlD'; cases hlD'
      · rw [hold _ _ ha (z.led _ _ q)] at hlD'; cases hlD'
  · have h1 : @LE.le Nat _ b.objs.size D := hDn
    have h2 : @LT.lt Nat _ D s'.heap.objs.size := Heap.lt_size (led' _ _ hDv)
    exact Nat.le_trans h1 (Nat.le_trans (Nat.le_of_lt h2) hDs)
end
end Mine

namespace Mine

section
variable {prog : Program} {w : World} {A : Around} {E : Value → Shared → Prop} {s : Shared} {K : Frag} {mg mb : Str → Option Value} {b : Heap} {L : Addr} {m : Str → Option Value} {ld : Ld} {env : Env} {sc : Scope} {h : Heap}

/-- sorted(a dict with int keys) -/
theorem call_sortedD {d : Addr} {o : Obj} {kvs : List (Int × Value)} {Q : Value → Shared → Prop} (hh : A.handled = none) (hsys : (d == sysModules) = false) (z : Z b L m ld s.heap) (hd : ld d = some o) (hk : o.IsDictOf (intKind prog w) kvs) (h64 : kvs.length < 64)
    (h : ∀ D h' tk vs' ns' e, ld D = none → New b D → Z b L m (upd ld D (listOf vs'.toArray e)) h' → IntsAre vs' ns' → ns'.Perm (kvs.map (·.1)) → ns'.Pairwise (· ≤ ·) → Q (.ref D) { s with heap := h', toks := tk }) :
    wpAny (model prog w) A (call (.builtin "sorted") [.ref d]) Q E s := by
  obtain ⟨es, ep, hk'⟩ := id hk
  have hat : s.heap.DictAt (intKind prog w) d kvs ep := ⟨o, es, z.led _ _ hd, hk'⟩
  refine Calls.call_function_entry kind_sorted plain_sorted entry_sorted (args_sorted1 _) ?_
  unfold Builtin.«sorted»
  refine wpAny_bind (m := checkCount "sorted" 1 1 _) (wpAny_pure ?_)
  refine wpAny_bind (kdu_collect (A := A.in1) (kdl_dict (knd := intKind prog w) (kvs := kvs) (ep := ep) hsys) hh hat (by rw [sizeLine_eq]; omega) fun h₁ tk acc hk₁ hacc => ?_)
  have hlen : acc.toList.length = (kvs.map (·.1)).length := by rw [Array.length_toList, hacc.1, List.length_map]
  have hi : IntsAre acc.toList (kvs.map (·.1)) := by
    have key : ∀ (l : List Value) (ns : List Int), l.length = ns.length → (∀ (j : Nat) (u : Value), l[j]? = some u → ∃ k t, ns[j]? = some k ∧ u = Value.int k t) → IntsAre l ns := by
      intro l
      induction l with
      | nil => intro ns hl _; cases ns with | nil => exact .nil | cons _ _ => simp at hl
      | cons u l ih =>
        intro ns hl hj
        cases ns with
        | nil => simp at hl
        | cons k ns =>
          obtain ⟨k', t, h1, rfl⟩ := hj 0 u rfl
          cases h1
          exact .cons _ _ (ih ns (by simpa using hl) fun j u hu => hj (j + 1) u hu)
    refine key _ _ hlen fun j u hu => ?_
    obtain ⟨k, x, hx, hku⟩ := hacc.2 j u (by rw [← Array.getElem?_toList]; exact hu)
    obtain ⟨t, rfl⟩ := Value.isInt_shape hku
    exact ⟨k, t, by rw [List.getElem?_map, hx]; rfl, rfl⟩
  have z₁ : Z b L m ld h₁ := z.ext hk₁
  refine wpAny_bind (wpAny_newList ?_ (by rw [hlen, List.length_map, sizeLine_eq]; omega))
  have z₂ := z₁.push (listOf acc.toList.toArray 0)
  have hoL : (h₁.push (listOf acc.toList.toArray 0)).get? h₁.objs.size = some (listOf acc.toList.toArray 0) := Heap.get?_push_size _ rfl
  refine wpAny_bind (wpAny_holding (wpAny_call_entry slot_list_sort ⟨_, hoL, rfl⟩ entry_list_sort (list_sort_tree hoL hi (by rw [hlen, List.length_map]; exact h64) fun out ns' a1 a2 a3 => ⟨_, rfl, ?_⟩) (args_list_sort _)))
  refine wpAny_pure ⟨_, rfl, ?_⟩
  obtain ⟨e, he⟩ := sortedHeap_at (vs := acc.toList) (out := out) hoL
  have z₃ := z₁.pushed (s := { s with heap := h₁ }) (D := h₁.objs.size) (o := listOf out e) (sz_none (Nat.le_refl _)) z₁.bs.size (fun a o q => sortedHeap_old (ne_of_lt1 (Heap.lt_size q)) (by rw [Heap.size_push]; exact Nat.lt_succ_of_lt (Heap.lt_size q)) |>.trans (Heap.get?_push_of_some _ q)) he
  have := h h₁.objs.size (sortedHeap (h₁.push (listOf acc.toList.toArray 0)) h₁.objs.size acc.toList out) tk out.toList ns' e z₁.size_none z₁.bs.size (by rw [Array.toArray_toList]; exact z₃) a1 a2 a3
  exact this

theorem lc_dict {elt iter : Expr} {ifs : List Expr} {x : Str} {px : Pos} {scope : Scope} {cl : List (Str × Addr)} {pos : Pos} {RR : Value → Addr → Result → Shared → Prop} {ax : Addr} {od : Obj} {kvs : List (Int × Value)} {mm : Nat} (r : Room A mm) (e : EnvIs env sc L)
    (z : Z b L m ld s.heap) (hax : ld ax = some od) (hod : od.IsDictOf (intKind prog w) kvs) (hsys : (ax == sysModules) = false) (hsz : kvs.length ≤ sizeLine)
    (J : Addr → Addr → Nat → List Value → Ld → Prop)
    (h0 : ∀ I D ld₁, ld I = none → ld D = none → (∀ a o, ld a = some o → ld₁ a = some o) → J I D 0 [] ld₁)
    (hJ : ∀ I D, ld I = none → ld D = none → ∀ i ys l l', J I D i ys l → (∀ a, a ≠ I → a ≠ D → a ≠ L → l' a = l a) → J I D i ys l')
    (turn : ∀ I C D i v ys (m₁ : Loc) lq h₁ tk₁, ld I = none → ld D = none → ld C = none → (∃ k u t, kvs[i]? = some (k, u) ∧ v = .int k t) → J I D i ys lq → lq ax = some od → (lq I).isSome = true → lq D = some (lstO ys) → (lq L).isSome = true →
      EnvIs (compEnvC scope cl C env) (relab scope sc) C → Z b C (fun y => if y = x then some v else m₁ y) lq h₁ →
      wpAny (model prog w) A (forIn ifs true fun c r => if r = true then do let ok ← isTrue c (compEnvC scope cl C env) (eval c (compEnvC scope cl C env)); pure (ForInStep.yield ok) else pure (ForInStep.yield r))
        (fun ok s' => if ok = true then wpAny (model prog w) A (eval elt (compEnvC scope cl C env)) (fun y s'' => CEnd b C [I, ax, D, L] (J I D (i + 1) (ys ++ [y])) lq s s'') (fun _ _ => False) s' else CEnd b C [I, ax, D, L] (J I D (i + 1) ys) lq s s')
        (fun _ _ => False) { s with heap := h₁, toks := tk₁ })
    (done : ∀ I D C ys lq mC h₁ tk₁, ld D = none → New b D → J I D kvs.length ys lq → lq D = some (lstO ys) → Z b L m lq h₁ → lq C = none → L ≠ C → h₁.Ns C mC → RR (.ref D) C (.ok .next) { s with heap := h₁, toks := tk₁ })
    (hx : scope.names.lookup x = some .local := by rfl) (hkind : scope.kind = .function := by rfl) (hcell : (scope.names.all fun x => decide (x.2 ≠ .cell)) = true := by rfl) :
    wpAny (model prog w) A (pyIter (.ref ax)) (fun it s₂ => wpAny (model prog w) A (newList []) (fun acc s₃ => wpAny (model prog w) A (newFunctionEnv scope env.globals cl [] env.qual none .none (some env)) (fun cenv s₄ =>
      codeAny (model prog w) A (.compStart (.ListComp elt [⟨.Name x px, iter, ifs, 0⟩] scope pos) 0 it acc { cenv with scope := relabel scope env }) (RR acc cenv.locals) s₄) E s₃) E s₂) E s := by
  obtain ⟨es, ep, hod'⟩ := id hod
  have hAt : ∀ h : Heap, h.get? ax = some od → h.DictAt (intKind prog w) ax kvs ep := fun h q => ⟨od, es, q, hod'⟩
  refine wpAny_pyIter_dict hsys (hAt _ (z.led _ _ hax)) ?_
  have hne : ax ≠ s.heap.objs.size := ne_of_lt1 (Heap.lt_size (z.led _ _ hax))
  have z₂ := z.push { cls := .type "dict_keyiterator", data := .fields #[.ref ax, .int 0 0, .int kvs.length 0, .int ep 0] }
  have hI0 : ld s.heap.objs.size = none := z.size_none
  have hIb : b.get? s.heap.objs.size = none := New.none (b := b) (z.bs.size)
  generalize hH1 : s.heap.push { cls := .type "dict_keyiterator", data := .fields #[.ref ax, .int 0 0, .int kvs.length 0, .int ep 0] } = H1 at z₂ ⊢
  have hH1s : H1.objs.size = s.heap.objs.size + 1 := by rw [← hH1, Heap.size_push]
  refine wpAny_newObj_type (wpAny_newFunctionEnv (fun x hx => of_decide_eq_true (List.all_eq_true.mp hcell x hx)) (by intro y hy; simp at hy) (fun h₁ hns₁ hsb₁ => ?_) hkind)
  have z₃ := z₂.push (lstO [])
  dsimp only at hns₁ hsb₁ ⊢
  change h₁.Ns (H1.push (lstO [])).objs.size _ at hns₁
  change Heap.SameBut (H1.push (lstO [])).objs.size ((H1.push (lstO [])).push _) h₁ at hsb₁
  obtain ⟨oL, hoL, z₄⟩ := z₃.into hns₁ hsb₁
  show codeAny _ A (.compStart _ 0 (.ref s.heap.objs.size) (.ref H1.objs.size) (compEnvC scope cl (H1.push (lstO [])).objs.size env)) (RR (.ref H1.objs.size) (H1.push (lstO [])).objs.size) _
  generalize hH2 : H1.push (lstO []) = H2 at z₄ ⊢
  have hH2s : H2.objs.size = H1.objs.size + 1 := by rw [← hH2, Heap.size_push]
  have hD0 : ld H1.objs.size = none := by rw [hH1s]; exact z.none1
  have hC0 : ld H2.objs.size = none := by
    cases q : ld H2.objs.size with
    | none => rfl
    | some o => exact absurd (z.lt q) (by rw [hH2s, hH1s]; exact Nat.not_lt.mpr (Nat.le_succ_of_le (Nat.le_succ _)))
  have hDb : New b H1.objs.size := by unfold New; rw [hH1s]; exact Nat.le_succ_of_le z.bs.size
  have hIL : s.heap.objs.size ≠ L := Ne.symm (ne_of_lt1 z.ns.lt)
  have hDL : H1.objs.size ≠ L := by rw [hH1s]; exact Ne.symm (ne_of_lt2 z.ns.lt)
  have hID : s.heap.objs.size ≠ H1.objs.size := by rw [hH1s]; exact Ne.symm (Nat.succ_ne_self _)
  have haxL : ax ≠ L := z.neL hax
  have haxD : ax ≠ H1.objs.size := by rw [hH1s]; exact ne_of_lt2 (Heap.lt_size (z.led _ _ hax))
  have hCI : H2.objs.size ∉ [s.heap.objs.size] := fun q => by
    have := List.mem_singleton.mp q
    rw [hH2s, hH1s] at this
    exact absurd this (Nat.ne_of_gt (Nat.lt_succ_of_lt (Nat.lt_succ_self _)))
  have hCD : H2.objs.size ≠ H1.objs.size := by rw [hH2s]; exact Nat.succ_ne_self _
  have W := Walks.dictKeys (knd := intKind prog w) (prog := prog) (w := w) r.handled s.heap.objs.size ax hne kvs ep
  have eC := e.comp hkind cl H2.objs.size
  have hPk : ∀ {i : Nat} {v : Value}, (∃ k x, kvs[i]? = some (k, x) ∧ (intKind prog w).is k v = true) → ∃ k u t, kvs[i]? = some (k, u) ∧ v = .int k t := fun {i v} ⟨k, x, h1, h2⟩ => by
    obtain ⟨t, rfl⟩ := Value.isInt_shape h2
    exact ⟨k, x, t, h1, rfl⟩
  have lp : ∀ s₃ : Shared, s₃ = { s with heap := h₁, toks := s.toks + 0 } →
      codeAny (model prog w) A (.compLoop (.ListComp elt [⟨.Name x px, iter, ifs, 0⟩] scope pos) 0 (.ref s.heap.objs.size) (.ref H1.objs.size) (compEnvC scope cl H2.objs.size env))
        (RR (.ref H1.objs.size) H2.objs.size) s₃ := by
    rintro s₃ rfl
    refine codeAny_compLoop_tests
      (fun k s' => ∃ h' tk i ys m' lq, s' = { s with heap := h', toks := tk } ∧ i ≤ kvs.length ∧ k = kvs.length + 1 - i ∧ ys.length ≤ i ∧ (h'.IsKeyIter s.heap.objs.size ax i kvs.length ep ∧ h'.DictAt (intKind prog w) ax kvs ep) ∧ Z b H2.objs.size m' lq h' ∧ lq L = some oL ∧
        lq H1.objs.size = some (lstO ys) ∧ lq ax = some od ∧ (lq s.heap.objs.size).isSome = true ∧ J s.heap.objs.size H1.objs.size i ys lq) ?_ (kvs.length + 1)
      ⟨h₁, _, 0, [], _, _, rfl, Nat.zero_le _, rfl, Nat.le_refl _, ⟨⟨_, z₄.led s.heap.objs.size _ ((upd_ne hIL).trans ((upd_ne hID).trans upd_self)), rfl, rfl⟩, hAt _ (z₄.led _ _ <| (upd_ne haxL).trans ((upd_ne haxD).trans ((upd_ne hne).trans hax)))⟩, z₄, upd_self, (upd_ne hDL).trans upd_self,
        (upd_ne haxL).trans ((upd_ne haxD).trans ((upd_ne hne).trans hax)), by rw [upd_ne hIL, upd_ne hID, upd_self]; rfl, h0 _ _ _ hI0 hD0 fun a o q => ?_⟩
    · rintro k s' ⟨h', tk, i, ys, m', lq, rfl, hi, rfl, hyl, hst', z', hqL, hqD, hqx, hqI, hJ'⟩
      by_cases hlt : i < kvs.length
      · refine W.item i _ _ _ hlt hst' fun v h₂ tk₂ hPv hst₂ hk₂ => ?_
        have z₅ := z'.sees hCI (fun a ha => by rw [List.mem_singleton.mp ha]; exact hIb) (fun a o q => hk₂ a o q)
        have sne : ∀ a, a ≠ s.heap.objs.size → sees [s.heap.objs.size] h₂ lq a = lq a := fun a ha => by unfold sees; rw [if_neg fun q => ha (List.mem_singleton.mp q)]
        have sI : (sees [s.heap.objs.size] h₂ lq s.heap.objs.size).isSome = true := by
          unfold sees; rw [if_pos (List.mem_singleton.mpr rfl)]
          obtain ⟨o, q, _⟩ := hst₂.1
          rw [q]; rfl
        refine wpAny_assign_Name (st_loc eC z₅ (fun h₃ z₆ => ?_) (lookup_relabel_local hx))
        refine wpAny_mono (turn s.heap.objs.size H2.objs.size H1.objs.size i v ys m' (sees [s.heap.objs.size] h₂ lq) h₃ _ hI0 hD0 hC0 (hPk hPv) (hJ _ _ hI0 hD0 i ys lq _ hJ' fun a ha _ _ => sne a ha) ((sne _ hne).trans hqx) sI ((sne _ (Ne.symm hID)).trans hqD) (by rw [sne L (Ne.symm hIL), hqL]; rfl) eC z₆) (fun ok s₄ h₄ => ?_) fun _ _ x => x.elim
        have stay : ∀ h₅ lf mC, Z b H2.objs.size mC lf h₅ → (∀ a ∈ [s.heap.objs.size, ax, H1.objs.size, L], lf a = sees [s.heap.objs.size] h₂ lq a) → h₅.IsKeyIter s.heap.objs.size ax (i + 1) kvs.length ep ∧ h₅.DictAt (intKind prog w) ax kvs ep := fun h₅ lf mC z₇ hf => by
          refine ⟨?_, hAt _ (z₇.led _ _ <| (hf ax (by simp)).trans ((sne _ hne).trans hqx))⟩
          obtain ⟨o, q, rr⟩ := hst₂.1
          exact ⟨o, z₇.led _ _ ((hf s.heap.objs.size (by simp)).trans (by unfold sees; rw [if_pos (List.mem_singleton.mpr rfl)]; exact q)), rr⟩
        cases ok with
        | true =>
          simp only [if_true] at h₄ ⊢
          refine wpAny_mono h₄ (fun y s₅ h₅ => ?_) fun _ _ x => x.elim
          obtain ⟨h₅, tk₅, mC, lf, rfl, z₇, hj, hf⟩ := h₅
          have hlD : lf H1.objs.size = some (lstO ys) := (hf _ (by simp)).trans ((sne _ (Ne.symm hID)).trans hqD)
          refine append_at (hsz := by show ys.toArray.size ≤ sizeLine; rw [List.size_toArray]; exact Nat.le_trans (Nat.le_trans hyl hi) hsz) (z₇.led _ _ hlD) fun h₆ hs₆ hD₆ => ?_
          have z₈ := z₇.sameBut hlD (New.none hDb) hs₆ hD₆
          have hst₇ := stay _ _ _ z₇ hf
          refine ⟨kvs.length + 1 - (i + 1), by omega, h₆, tk₅, i + 1, ys ++ [y], mC, _, rfl, hlt, rfl, by rw [List.length_append, List.length_singleton]; exact Nat.succ_le_succ hyl, ⟨?_, hAt _ (z₈.led _ _ <| (upd_ne haxD).trans ((hf ax (by simp)).trans ((sne _ hne).trans hqx)))⟩, z₈, ?_, ?_, ?_, ?_, ?_⟩
          · obtain ⟨o, q, rr⟩ := hst₇.1
            exact ⟨o, hs₆.extBut _ _ hID q, rr⟩
          · exact (upd_ne (Ne.symm hDL)).trans ((hf L (by simp)).trans ((sne _ (Ne.symm hIL)).trans hqL))
          · exact upd_self.trans (congrArg some (LCg.lst_snoc ys y))
          · exact (upd_ne haxD).trans ((hf ax (by simp)).trans ((sne _ hne).trans hqx))
          · rw [upd_ne hID, hf _ (by simp)]; exact sI
          · exact hJ _ _ hI0 hD0 _ _ _ _ hj fun a _ ha _ => upd_ne ha
        | false =>
          simp only [Bool.false_eq_true, if_false] at h₄ ⊢
          obtain ⟨h₅, tk₅, mC, lf, rfl, z₇, hj, hf⟩ := h₄
          exact ⟨kvs.length + 1 - (i + 1), by omega, h₅, tk₅, i + 1, ys, mC, lf, rfl, hlt, rfl, Nat.le_succ_of_le hyl, stay _ _ _ z₇ hf, z₇, (hf L (by simp)).trans ((sne _ (Ne.symm hIL)).trans hqL), (hf _ (by simp)).trans ((sne _ (Ne.symm hID)).trans hqD), (hf ax (by simp)).trans ((sne _ hne).trans hqx), by rw [hf _ (by simp)]; exact sI, hj⟩
      · obtain rfl : i = kvs.length := Nat.le_antisymm hi (Nat.not_lt.mp hlt)
        refine W.done _ _ _ hst' fun h₂ tk₂ hk₂ => ?_
        have z₅ := z'.sees hCI (fun a ha => by rw [List.mem_singleton.mp ha]; exact hIb) (fun a o q => hk₂ a o q)
        have sne : ∀ a, a ≠ s.heap.objs.size → sees [s.heap.objs.size] h₂ lq a = lq a := fun a ha => by unfold sees; rw [if_neg fun q => ha (List.mem_singleton.mp q)]
        have z₆ := z₅.back ((sne L (Ne.symm hIL)).trans hqL) hoL z.above (Heap.SameBut.refl _ _)
        have hLC : L ≠ H2.objs.size := fun q => by have := z.ns.lt; rw [q, hH2s, hH1s] at this; exact absurd this (Nat.not_lt.mpr (Nat.le_succ_of_le (Nat.le_succ _)))
        refine done s.heap.objs.size H1.objs.size H2.objs.size ys _ m' h₂ tk₂ hD0 hDb (hJ _ _ hI0 hD0 _ _ _ _ hJ' fun a ha _ haL => ?_) ?_ z₆ ?_ hLC z₅.ns
        · unfold off; rw [if_neg haL]; exact sne a ha
        · unfold off; rw [if_neg hDL]; exact (sne _ (Ne.symm hID)).trans hqD
        · unfold off; rw [if_neg (Ne.symm hLC)]; exact z₅.fr
    · have hlt := z.lt q
      rw [upd_ne (z.neL q), upd_ne (by rw [hH1s]; exact ne_of_lt2 hlt), upd_ne (ne_of_lt1 hlt)]
      exact q
  have hs0 : (h₁.IsKeyIter s.heap.objs.size ax 0 kvs.length ep ∧ h₁.DictAt (intKind prog w) ax kvs ep) := ⟨⟨_, z₄.led s.heap.objs.size _ ((upd_ne hIL).trans ((upd_ne hID).trans upd_self)), rfl, rfl⟩, hAt _ (z₄.led _ _ <| (upd_ne haxL).trans ((upd_ne haxD).trans ((upd_ne hne).trans hax)))⟩
  exact codeAny_compStart_list (lp _ rfl) (W.self 0 _ _ _ hs0 (lp _ rfl))


end
end Mine

namespace Mine

theorem mem_valueAt (kvs : List (Int × Value)) (k : Int) : k ∈ kvs.map (·.1) ↔ (valueAt kvs k).isSome = true := by
  unfold valueAt
  rw [Option.isSome_map, List.find?_isSome, List.mem_map]
  constructor
  · rintro ⟨p, hp, rfl⟩; exact ⟨p, hp, by simp⟩
  · rintro ⟨p, hp, q⟩; exact ⟨p, hp, of_decide_eq_true q⟩

theorem want_perm {kvs : List (Int × Value)} {f : Int → Option Bool} {seen : List Int} (h : WantIs kvs f seen) (hn : (kvs.map (·.1)).Nodup) (hs : seen.Nodup) : (kvs.map (·.1)).Perm seen := by
  rw [List.perm_ext_iff_of_nodup hn hs]
  intro k
  rw [mem_valueAt, h k]
  by_cases q : k ∈ seen
  · simp [q]
  · simp [q]

theorem zip_valueAt (g : Int → Value) : ∀ (ks : List Int) (k : Int), k ∈ ks → valueAt (ks.zip (ks.map g)) k = some (g k)
  | [], k, h => by cases h
  | a :: ks, k, h => by
    unfold valueAt
    rw [List.map_cons, List.zip_cons_cons, List.find?_cons]
    by_cases q : a = k
    · subst q; simp
    · simp only [q, decide_false]
      have := zip_valueAt g ks k ((List.mem_cons.mp h).resolve_left fun e => q e.symm)
      exact this
theorem zip_keys (g : Int → Value) (ks : List Int) : (ks.zip (ks.map g)).map (·.1) = ks := by
  induction ks with
  | nil => rfl
  | cons a ks ih => simp only [List.map_cons, List.zip_cons_cons]; rw [ih]

section
variable {w : World} {A : Around} {E : Value → Shared → Prop} {s : Shared} {mg mb : Str → Option Value} {b : Heap} {L : Addr} {m : Loc} {ld : Ld} {env : Env} {sc : Scope}

theorem d_item {d : Addr} {o : Obj} {kvs : List (Int × Value)} {i : Int} {t : Tok} {v : Value} {value slice : Expr} {Q : Value → Shared → Prop} (z : Z b L m ld s.heap) (hd : ld d = some o) (hk : o.IsDictOf (intKind PP w) kvs) (hv : valueAt kvs i = some v)
    (h : Q v { s with toks := s.toks + 1 }) (hs : subscripted slice false (.ref d) (.int i t) = operate [.ref d, .int i t] (getItem (.ref d) (.int i t)) := by with_unfolding_all rfl) :
    wpAny (model PP w) A (subscriptTail value slice (.ref d) (.int i t)) Q E s :=
  tail_any (dictAt z hd hk).typeIs slot_dict_getitem.lookup (wpAny_getItem_of (intKind_is PP w i t) (dictAt z hd hk).mapOf hv h) hs

/-- back from a call that grew the table -/
theorem Z.calledR {ps : Array Value} {h h' : Heap} {ld' : Ld} (hP : b.get? 165 = some tab0) (z : Z b L m ld h) (led : Led ld' h') (h165 : ld' 165 = some (tabO ps)) (hk : ∀ a o, a ≠ 165 → h.get? a = some o → ld' a = some o) : Z (regrown b 165 ps) L m (off L ld') h' := by
  have hL : L ≠ 165 := fun e => absurd (Heap.lt_size hP) (Nat.not_lt.mpr (e ▸ z.above))
  refine ⟨z.ns.at' fun o q => led _ _ (hk _ _ hL q), fun a o q => ?_, by unfold off; rw [if_pos rfl], fun a o q => ?_, by rw [reg_size]; exact z.above⟩
  · unfold off at q
    split at q
    · cases q
    · exact led _ _ q
  · by_cases ha : a = 165
    · subst ha
      rw [reg_self hP] at q
      unfold off; rw [if_neg (Ne.symm hL), h165]; exact q
    · rw [reg_ne ha] at q
      have := z.base a o q
      unfold off; rw [if_neg (z.neL this)]; exact hk _ _ ha (z.led _ _ this)

set_option maxHeartbeats 4000000 in
theorem law_last {cells : List (Str × Addr)} {wc fc nl cD hl wd : Addr} {ns : List Int} {cs : List CA} {litss : List (List Int)} {p : AsAddr} {f : Int → Option Bool} {seen asg hs : List Int} {kvs : List (Int × Value)} {bm : Addr} {ob : Obj} {Q : Flow → Shared → Prop}
    (C : Cx (KK w) mg mb b) (M : BMod b mainGlobals mg bm ob) (hP : b.get? 165 = some tab0) (r : Room A 3) (e : EnvIs env (lawS w) L) (hcs : env.cells = cells) (hcw : cells.lookup ("want" : Str) = some wc) (hcf : cells.lookup ("found" : Str) = some fc)
    (hwn : New b wc) (hfn : New b fc) (hwf : wc ≠ fc) (z : Z b L m ld s.heap) (S : LS w b L m ld wc fc nl cD hl wd ns cs litss p f seen asg hs kvs) (P : LP litss f seen hs kvs) (hbare : AllBare s.gens)
    (h : ∀ s', Mv s s' → AllBare s'.gens → OldK b s'.heap → Q (.ret (.bool true)) s') :
    wpAny (model PP w) A (execs ((lawB w).drop 8) env) Q (fun _ _ => False) s := by
  show wpAny _ _ (execs (.Assign [.Name "found" _] _ _ :: .Return (some (.BoolOp .And [_, _] _)) _ :: []) env) _ _ _
  obtain ⟨g1, g2, g3, g4, g5, g6, t1, t2, t3, t4, t5, t6, nn, hdict⟩ := S.as.dict
  obtain ⟨o3, hx3, hk3, hr3⟩ := S.as.seen
  have hsn : seen.Nodup := by obtain ⟨_, _, _, _, _, _, _, hn, _⟩ := hk3; exact hn
  have hslen : seen.length ≤ 19 := set_le hk3 hr3
  refine wpAny_execs_cons (wpAny_Assign_Name (MethodCall_ (ev_loc e z S.ma (gm_inst C z S.as.inst hdict rfl rfl rfl rfl (cw_K0 C z rfl ?_)))))
  refine todict_spec C M hP z.bs (r.le (by omega)) (asMono S.as fun a o _ q => z.led _ _ q) S.ok hbare fun s' ld' ps D ks hm hb' led' h165 hold hD0 hDn hD hperm => ?_
  obtain ⟨oD, hoD, hdD⟩ := hD
  have z' := z.calledR hP led' h165 hold
  have C' : Cx (KK w) mg mb (regrown b 165 ps) := C.reg
  have hnot165 : ∀ a, New b a → a ≠ 165 := fun a q e => absurd (Heap.lt_size hP) (Nat.not_lt.mpr (e ▸ q))
  have hup : ∀ a o, a ≠ 165 → ld a = some o → off L ld' a = some o := fun a o ha q => by
    unfold off; rw [if_neg (z.neL q)]; exact hold _ _ ha (z.led _ _ q)
  have hDL : off L ld' D = some oD := by
    unfold off; rw [if_neg fun q => by
      obtain ⟨oL, hL, _⟩ := LCg.ns_obj z.ns
      rw [q, hL] at hD0; cases hD0]
    exact hoD
  have hnew : ∀ a, New b a → New (regrown b 165 ps) a := fun a q => by unfold New; rw [reg_size]; exact q
  obtain ⟨oc, qc1, qc2⟩ := S.want
  obtain ⟨ov, oc', qf1, qf2⟩ := S.found
  obtain ⟨ow, qw1, qw2⟩ := S.wdo
  have hwc' := hup _ _ (hnot165 _ hwn) qc1
  have hfc' := hup _ _ (hnot165 _ hfn) qf1
  have hwd' := hup _ _ (hnot165 _ S.wdn) qw1
  obtain ⟨_, _, hdatD⟩ := dictOf_data hdD
  obtain ⟨_, _, hdatW⟩ := dictOf_data qw2
  have hDf : D ≠ fc := ne_of_obj hDL hfc' (by rw [hdatD, qf2]; simp)
  have hwdf : wd ≠ fc := ne_of_obj hwd' hfc' (by rw [hdatW, qf2]; simp)
  refine st_cell e (by rw [hcs]; exact hcf) z' ⟨oc', hfc', qf2⟩ (New.none (hnew _ hfn)) fun h₂ l2 z hc2 K2 => ?_
  dsimp only
  have hwc2 : CellIs l2 wc (some (.ref wd)) := ⟨oc, by rw [K2 _ hwf]; exact hwc', qc2⟩
  have hD2 : l2 D = some oD := by rw [K2 _ hDf]; exact hDL
  have hw2 : l2 wd = some ow := by rw [K2 _ hwdf]; exact hwd'
  have hnk : (kvs.map (·.1)).Nodup := by obtain ⟨_, _, _, _, _, _, hn⟩ := qw2; exact hn
  have hwp := want_perm P.wi hnk hsn
  have hkl : ks.length ≤ 19 := by rw [hperm.length_eq]; exact hslen
  have hkvl : kvs.length ≤ 19 := by have := hwp.length_eq; rw [List.length_map] at this; omega
  clear z' hup hDL hwc' hfc' hwd' K2
  -- sorted(found) == sorted(want)
  refine wpAny_execs_cons (wpAny_Return_some (ev_and (wpAny_Compare1 (Call_ (ev_bi e C' z rfl boot_sorted (PyProof.Rows.callWith_builtin1 (args_cons (ev_cell e (by rw [hcs]; exact hcf) z hc2 (args_nil ?_)))))))))
  refine call_sortedD r.handled (C'.notSys (hnew _ hDn)) z hD2 hdD (by rw [List.length_zip, List.length_map]; omega) fun S1 h₃ tk₃ us1 ns1 e1 hS1 hS1n z i1 p1 q1 => ?_
  refine Call_ (ev_bi e C' z rfl boot_sorted (PyProof.Rows.callWith_builtin1 (args_cons (ev_cell e (by rw [hcs]; exact hcw) z (let ⟨o, a, r⟩ := hwc2; ⟨o, upd_old hS1 a, r⟩) (args_nil ?_)))))
  refine call_sortedD r.handled (C'.notSys (hnew _ S.wdn)) z (upd_old hS1 hw2) qw2 (by omega) fun S2 h₄ tk₄ us2 ns2 e2 hS2 hS2n z i2 p2 q2 => ?_
  refine eq_intsK (z.isList (upd_old hS2 upd_self)) i1 (z.isList upd_self) i2 r.unit64 (wpAny_truthy_bool ?_)
  rw [zip_keys] at p1
  rw [decide_eq_true (sorted_unique p1 p2 (hperm.trans hwp.symm) q1 q2), if_pos rfl]
  have K4 : ∀ a o, l2 a = some o → upd (upd l2 S1 (listOf us1.toArray e1)) S2 (listOf us2.toArray e2) a = some o := fun a o q => upd_old hS2 (upd_old hS1 q)
  generalize upd (upd l2 S1 (listOf us1.toArray e1)) S2 (listOf us2.toArray e2) = l4 at z K4
  -- the comprehension
  refine ev_and1 (wpAny_Compare1 (lc (cl := [(("want" : Str), wc), (("found" : Str), fc)]) hcs ?_ ?_))
  · show (match cells.lookup ("found" : Str) with | some c => (match cells.lookup ("want" : Str) with | some c' => some [(("want" : Str), c'), (("found" : Str), c)] | none => none) | none => none) = some _
    rw [hcf, hcw]
  refine ev_cell e (by rw [hcs]; exact hcw) z (let ⟨o, a, r⟩ := hwc2; ⟨o, K4 _ _ a, r⟩) ?_
  refine lc_dict r e z (K4 _ _ hw2) qw2 (C'.notSys (hnew _ S.wdn)) (by rw [sizeLine_eq]; omega) (fun _ _ _ ys l => (∀ a o, l4 a = some o → l a = some o) ∧ ys = []) ?_ ?_ ?_ ?_
  · intro I D' ld₁ _ _ q; exact ⟨q, rfl⟩
  · rintro I D' hI hD' i ys l l' ⟨q1, q2⟩ q3
    refine ⟨fun a o q => ?_, q2⟩
    rw [q3 a (fun e => by rw [e, hI] at q; cases q) (fun e => by rw [e, hD'] at q; cases q) (z.neL q)]; exact q1 a o q
  · rintro I CC D' i v ys m₁ lq h₁ tk₁ hI hD' hC hv ⟨q1, rfl⟩ hqx hqI hqD hqL eC z₁
    obtain ⟨k, u, t, hk, rfl⟩ := hv
    have hmem : k ∈ kvs.map (·.1) := List.mem_map.mpr ⟨(k, u), List.mem_of_getElem? hk, rfl⟩
    have hseen : k ∈ seen := hwp.mem_iff.mp hmem
    have hv1 : valueAt kvs k = some (optV (f k)) := by rw [P.wi k, if_pos hseen]
    have hv2 : valueAt (ks.zip (ks.map fun k => optV (f k))) k = some (optV (f k)) := zip_valueAt _ ks k (hperm.mem_iff.mpr hseen)
    have hfq : CellIs lq fc (some (.ref D)) := let ⟨o, a, r⟩ := hc2; ⟨o, q1 _ _ (K4 _ _ a), r⟩
    have hwq : CellIs lq wc (some (.ref wd)) := let ⟨o, a, r⟩ := hwc2; ⟨o, q1 _ _ (K4 _ _ a), r⟩
    refine wpAny_tests_one (wpAny_isTrue_Compare1 (Subscript_ (ev_cell eC rfl z₁ hfq (ev_loc eC z₁ (if_pos rfl) (d_item z₁ (q1 _ _ (K4 _ _ hD2)) hdD hv2 ?_)))))
    refine Subscript_ (ev_cell eC rfl z₁ hwq (ev_loc eC z₁ (if_pos rfl) (d_item z₁ (q1 _ _ (K4 _ _ hw2)) qw2 hv1 ?_)))
    refine wpAny_isNot_plain (by cases f k <;> rfl) (wpAny_truthy_bool ?_)
    have hb : (!(optV (f k) == optV (f k))) = false := by
      cases f k with
      | none => rfl
      | some c => cases c <;> rfl
    rw [hb, if_neg (by simp)]
    exact ⟨_, _, _, lq, rfl, z₁, ⟨q1, rfl⟩, fun _ _ => rfl⟩
  · rintro I D' CC ys lq mC h₁ tk₁ hD' hDn' ⟨q1, rfl⟩ hqD z hC hLC hns
    refine post_plain z hC hLC hns fun h₅ z => ?_
    refine ev_nil z fun D3 h₆ hD3 _ z => ?_
    refine eq_intsK (vs := []) (us := []) (ns := []) (ms := []) (z.isList (upd_old hD3 hqD)) .nil (z.isList upd_self) .nil r.unit64 ?_
    have hfin : OldK b h₆ := by
      have ht := (code169 C.X hP).2
      have ht' := z.stays
      refine OldK.step_table (more := ps) (.refl b) ht ht ?_ (fun a o ha q => ht' a o ((reg_ne ha).trans q)) (by decide)
      obtain ⟨⟨o9, vs9, h9, r9⟩, _⟩ := ht
      refine ⟨⟨o9, vs9, ht' _ _ ((reg_ne (by decide)).trans h9), r9⟩, ?_⟩
      rw [Array.empty_append]
      exact ht' _ _ (reg_self hP)
    exact h _ (Mv.trans hm ⟨_, _, _, rfl⟩) hb' hfin
end
end Mine

namespace Mine

section
variable {w : World} {A : Around} {E : Value → Shared → Prop} {s : Shared} {mg mb : Str → Option Value} {b : Heap} {L : Addr} {m : Loc} {ld : Ld} {env : Env} {sc : Scope}

set_option maxHeartbeats 4000000 in
theorem law_all {l : Addr} {vs : List Value} {nums : List Int} {bm : Addr} {ob : Obj} {Q : Value → Shared → Prop}
    (C : Cx (KK w) mg mb b) (M : BMod b mainGlobals mg bm ob) (hP : b.get? 165 = some tab0) (hB : Bs b s.heap) (r : Room A 7) (hl : s.heap.IsList l vs.toArray) (hi : IntsAre vs nums) (hlen : vs.length ≤ 63) (hbare : AllBare s.gens)
    (h : ∀ s', Mv s s' → AllBare s'.gens → OldK b s'.heap → Q (.bool true) s') :
    wpAny (model PP w) A (call (.ref 289) [.ref l]) Q E s := by
  refine enterX (n := 6) C hB r rfl rfl rfl (BindsTo.of_eq rfl) rfl rfl rfl rfl rfl rfl rfl ?_
  intro A' env L ld h₁ tk r' e hcs hL hL0 z hk hcell _
  dsimp only at e hcs
  have hcs' : env.cells = [(("found" : Str), L + 2), (("want" : Str), L + 1)] := hcs
  have hce : env.cells.lookup ("want" : Str) = some (L + 1) := by rw [hcs']; rfl
  have hcf : env.cells.lookup ("found" : Str) = some (L + 2) := by rw [hcs']; rfl
  obtain ⟨hwv, hw0, hwn⟩ := hcell "want" (L + 1) hce
  obtain ⟨hfv, hf0, hfn⟩ := hcell "found" (L + 2) hcf
  have hl₁ : h₁.IsList l vs.toArray := by
    obtain ⟨o, ho, q⟩ := hl
    exact ⟨o, z.led _ _ (hk _ _ ho), q⟩
  show wpAny _ _ (execs (lawB w) env) _ _ _
  refine law_init (s := { s with heap := h₁, toks := tk }) (wc := L + 1) (fc := L + 2) C r' e hcs' rfl z hwv hwn hfv (Nat.ne_of_lt (Nat.lt_succ_self (L + 1))) rfl hl₁ hi hlen ?_
  intro h₂ tk₂ m₂ ld₂ nl cD hl₂ wd ns cs litss p f seen asg hs kvs z S P
  show wpAny _ _ (execs ((lawB w).getD 7 (.Pass default) :: (lawB w).drop 8) env) _ _ _
  refine wpAny_execs_cons (law_loop (s := { s with heap := h₂, toks := tk₂ }) C (r'.le (by omega)) e hce z S P ?_)
  intro h₃ tk₃ m₃ ld₃ litss₃ f₃ seen₃ asg₃ hs₃ kvs₃ z S P
  refine law_last (s := { s with heap := h₃, toks := tk₃ }) C M hP (r'.le (by omega)) e hcs' rfl rfl hwn hfn (Nat.ne_of_lt (Nat.lt_succ_self (L + 1))) z S P hbare ?_
  intro s' hm hb' hold
  exact h s' (Mv.trans ⟨_, _, _, rfl⟩ hm) hb' hold
end
end Mine

set_option maxHeartbeats 8000000 in
theorem PySem.Challenge.cw_nc0035_01_holds : PySem.Challenge.rw_nc0035_01.Holds := by
  refine Mine.hd01 ?_
  intro w s₀ s₁ mg mb G Y fa o pm cd doc dV kV ho hd hcd hD hmg hg args vals as hpre hlay hrd hwl hlo
  obtain ⟨X0, hP⟩ := Y
  have X : (Mine.KK w).In s₁.heap := X0
  have T := G.T
  obtain ⟨bm, ob, M⟩ := bmod_of_top T
  have C : Mine.Cx (Mine.KK w) mg mb s₁.heap := ⟨X, T.g, T.b, T.nolimit, T.builtins⟩
  obtain rfl : fa = 289 := by
    have h1 := mg_of (n := ("law" : Str)) X T.g (show nsIn (Mine.KK w) mainGlobals ("law" : Str) = some (some (.ref 289)) from rfl)
    have h2 : mg "law" = some (.ref fa) := hmg
    rw [h1] at h2
    cases h2; rfl
  clear hd hcd hD hmg ho
  wrow_args hpre hlay hrd hwl hlo
  rename Heap.IsList _ _ _ => hL
  rename IntsAre _ _ => hI
  rename ¬ _ => hc
  refine Mine.law_all C M hP ⟨fun _ _ e => e, Nat.le_refl _⟩ ⟨rfl, by decide, by decide⟩ hL hI (by have := hI.length; omega) (AllBare.of_eq hg) fun s' hm hb hold => ?_
  obtain ⟨_, _, _, rfl⟩ := hm
  refine ⟨.inl ⟨.bool true, .bool true, [], rfl, ?_, ?_, ?_, fun _ => ⟨.nil, fun _ q => nomatch q⟩⟩, hold, rfl, hb⟩
  · exact raisesW_false (by wrow_none_raised)
  · exact .bool _
  · wrow_post
